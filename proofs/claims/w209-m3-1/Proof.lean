import JvmDerived
import JvmDerived.Pilot.@@N@@Statement
import JvmDerived.Pilot.@@N@@Code
set_option linter.unusedVariables false
set_option linter.unusedSimpArgs false
namespace Jvm.Pilot.@@N@@
open Jvm Jvm.ClassFile Sem Op Lib Jvm.Free Jvm.Stand Jvm.LawKit Jvm.RoadKit Bundle Jvm.Pilot.@@N@@.Jvm.D
section Own
variable {p : Program} {l : Launch} {e : Env} {R : Room} {s : State} {m : MethodId} {args : Array Value} {below : List Frame} {meth : Method} {c : Code} {T : State} {locs : List Loc} {cells slots n0 : Nat} {Z : State} {a0 : Array Value} {h h' : Heap} {its : List (Cell → Prop)} {Q : Option Value → List (Cell → Prop) → Prop} {pc : Nat} {Ls : Array Slot} {stk rest : List Value} {own : String}
/-- the new part of the heap: the cells from n0 on, one word on each -/
def own_hp (n0 : Nat) (h : Heap) (its : List (Cell → Prop)) : Prop := h.size = n0 + its.length ∧ ∀ (i : Nat) (P : Cell → Prop), its[i]? = some P → ∃ cl : Cell, h[n0 + i]? = some cl ∧ P cl
/-- where the walk stands -/
def own_at (p : Program) (l : Launch) (e : Env) (R : Room) (s : State) (m : MethodId) (args : Array Value) (below : List Frame) (meth : Method) (c : Code) (n0 : Nat) (T : State) (cells slots : Nat) (its : List (Cell → Prop)) : Prop :=
  ∃ locs, Stand p l e R s m args below meth c T locs cells slots ∧ Fr n0 locs ∧ own_hp n0 T.heap its
/-- from u the method comes to its end, and Q holds there -/
def own_go (p : Program) (e : Env) (R : Room) (s : State) (below : List Frame) (n0 : Nat) (Q : Option Value → List (Cell → Prop) → Prop) (u : State) : Prop :=
  ∃ (t : State) (v : Option Value) (L : List Loc) (its : List (Cell → Prop)), Steps p.tables e below u t ∧ t.status = .running ∧ Ended t below (.returned v) ∧ Q v its ∧ Fr n0 L ∧ own_hp n0 t.heap its ∧ s.WarmedH t.vm ∧ s.sameButNew ({ t with vm := s.vm } : State) L R.cells R.slots
theorem own_at.here (A : own_at p l e R s m args below meth c n0 T cells slots its) : At T m c below := by
  obtain ⟨_, X, _⟩ := A; exact X.here
theorem own_at.more (A : own_at p l e R s m args below meth c n0 T cells slots its) {cells' slots' : Nat} (hc : cells ≤ cells') (hs : slots ≤ slots') : own_at p l e R s m args below meth c n0 T cells' slots' its := by
  obtain ⟨L, X, r⟩ := A; exact ⟨L, X.more hc hs, r⟩
theorem own_by {u u' : State} (q : ∀ target, Steps p.tables e below u' target → Steps p.tables e below u target) (k : own_go p e R s below n0 Q u') : own_go p e R s below n0 Q u := by
  obtain ⟨t, v, L, i, h1, r⟩ := k
  exact ⟨t, v, L, i, q t h1, r⟩
theorem own_nil {α : Type} {P : α → Prop} : ∀ x ∈ ([] : List α), P x := fun _ q => nomatch q
theorem own_cons {α : Type} {P : α → Prop} {y : α} {L : List α} (q : P y) (r : ∀ x ∈ L, P x) : ∀ x ∈ y :: L, P x := fun x z => (List.mem_cons.mp z).elim (fun u => u ▸ q) (r x)
theorem own_hp.push (H : own_hp n0 h its) {cl : Cell} {P : Cell → Prop} (hP : P cl) : own_hp n0 (h.push cl) (its ++ [P]) := by
  refine ⟨by rw [Array.size_push, H.1, List.length_append]; rfl, fun i P' hi => ?_⟩
  by_cases q : i < its.length
  · rw [List.getElem?_append_left q] at hi
    obtain ⟨c, h1, h2⟩ := H.2 i P' hi
    refine ⟨c, ?_, h2⟩
    rw [Array.getElem?_push_lt (Array.getElem?_eq_some_iff.mp h1).1]
    exact (Array.getElem?_eq_getElem _).symm.trans h1
  · have q2 : i = its.length := by
      have := (List.getElem?_eq_some_iff.mp hi).1
      simp only [List.length_append, List.length_cons, List.length_nil] at this
      omega
    subst q2
    simp only [List.getElem?_concat_length, Option.some.injEq] at hi
    subst hi
    refine ⟨cl, ?_, hP⟩
    rw [← H.1]; simp
theorem own_hp.wr (H : own_hp n0 h its) {i sl : Nat} {v : Value} {P P' : Cell → Prop} (hi : its[i]? = some P) (W : Wr h h' (n0 + i) sl v) (hP : ∀ cl, h[n0 + i]? = some cl → P cl → P' (cl.setSlot sl v)) : own_hp n0 h' (its.set i P') := by
  obtain ⟨cell, w1, w2, w3, rfl⟩ := W
  refine ⟨by rw [Array.size_setIfInBounds, List.length_set]; exact H.1, fun j P2 hj => ?_⟩
  by_cases q : i = j
  · subst q
    have hl := (List.getElem?_eq_some_iff.mp hi).1
    rw [List.getElem?_set_self hl] at hj
    cases hj
    obtain ⟨cl, g1, g2⟩ := H.2 i P hi
    cases w1.symm.trans g1
    exact ⟨cell.setSlot sl v, by simp [(Array.getElem?_eq_some_iff.mp w1).1], hP _ w1 g2⟩
  · rw [List.getElem?_set_ne q] at hj
    obtain ⟨cl, g1, g2⟩ := H.2 j P2 hj
    exact ⟨cl, by rw [Array.getElem?_setIfInBounds_ne (by omega)]; exact g1, g2⟩
theorem own_geti {i : Nat} {P P' : Cell → Prop} (hi : its[i]? = some P) : (its.set i P')[i]? = some P' := List.getElem?_set_self (List.getElem?_eq_some_iff.mp hi).1
/-- an object of just that class, its fields ns holding vs -/
def own_obj (Z : State) (C : String) (ns : List (String × String)) (vs : List Value) : Cell → Prop := fun cl => ∀ (h : Heap) (a : Addr), h[a]? = some cl → Exa Z h a C ∧ ∀ (i : Nat) (f : String × String) (v : Value), ns[i]? = some f → vs[i]? = some v → Fld Z h a C f.1 f.2 v
/-- an array of ints (shorts, chars, bytes) -/
def own_ia (Z : State) (ty : FieldType) (xs : List Int32) : Cell → Prop := fun cl => xs.length < 2 ^ 31 ∧ cl.slots = (xs.map Value.int).toArray ∧ Z.isArrayOf cl ty ∧ cl.vm ≠ .unknown ∧ (∀ x ∈ xs, fits ty (.int x) = true) ∧ Z.vm.findClass ("[" ++ ty.toString) = some cl.cls
/-- an array of longs -/
def own_la (Z : State) (xs : List Int64) : Cell → Prop := fun cl => xs.length < 2 ^ 31 ∧ cl.slots = (xs.map Value.long).toArray ∧ Z.isArrayOf cl .long ∧ cl.vm ≠ .unknown
/-- the fields' places are unlike -/
def own_apart (Z : State) (C : String) (ns : List (String × String)) : Prop := ∀ (i j : Nat) (f g : String × String), ns[i]? = some f → ns[j]? = some g → i ≠ j → Jvm.RoadKit.slotOf Z C f.1 f.2 ≠ Jvm.RoadKit.slotOf Z C g.1 g.2
theorem own_apart_of {C : String} {ns : List (String × String)} (hL : ∀ f ∈ ns, Laid Z a0 C C f.1 f.2 ∧ ∃ t, parseFieldDescriptor f.2 = some t) (hn : (ns.map (·.1)).Nodup) : own_apart Z C ns := by
  intro i j f g hi hj hij
  obtain ⟨l1, t1, d1⟩ := hL f (List.mem_of_getElem? hi)
  obtain ⟨l2, t2, d2⟩ := hL g (List.mem_of_getElem? hj)
  refine slot_ne l1 l2 (fun q => ?_) d1 d2
  have e1 : (ns.map (·.1))[i]? = some f.1 := by rw [List.getElem?_map, hi]; rfl
  have e2 : (ns.map (·.1))[j]? = some g.1 := by rw [List.getElem?_map, hj]; rfl
  obtain ⟨b1, c1⟩ := List.getElem?_eq_some_iff.mp e1
  obtain ⟨b2, c2⟩ := List.getElem?_eq_some_iff.mp e2
  have pw := List.pairwise_iff_getElem.mp hn
  rcases Nat.lt_or_gt_of_ne hij with z | z
  · exact pw i j b1 b2 z (by rw [c1, c2, q])
  · exact pw j i b2 b1 z (by rw [c1, c2, q])
theorem own_obj.set {C : String} {ns : List (String × String)} {vs : List Value} {j : Nat} {n d : String} {v old : Value} {cl : Cell} (O : own_obj Z C ns vs cl) (ap : own_apart Z C ns) (hj : ns[j]? = some (n, d)) (hv : vs[j]? = some old) (hlt : Jvm.RoadKit.slotOf Z C n d < cl.slots.size) (hst : cl.vm.isStatics = false) : own_obj Z C ns (vs.set j v) (cl.setSlot (Jvm.RoadKit.slotOf Z C n d) v) := by
  intro h2 a2 ha2
  have hb : (#[cl] : Heap)[0]? = some cl := rfl
  have W : Wr (#[cl] : Heap) (#[cl.setSlot (Jvm.RoadKit.slotOf Z C n d) v] : Heap) 0 (Jvm.RoadKit.slotOf Z C n d) v := ⟨cl, hb, hst, hlt, rfl⟩
  obtain ⟨E, F⟩ := O _ _ hb
  have E' : Exa Z (#[cl.setSlot (Jvm.RoadKit.slotOf Z C n d) v] : Heap) 0 C := E.wr W
  refine ⟨?_, fun i f w hi hw => ?_⟩
  · obtain ⟨c1, k, q1, r⟩ := E'
    cases (show (#[cl.setSlot (Jvm.RoadKit.slotOf Z C n d) v] : Heap)[0]? = some _ from rfl).symm.trans q1
    exact ⟨_, k, ha2, r⟩
  · have F' : Fld Z (#[cl.setSlot (Jvm.RoadKit.slotOf Z C n d) v] : Heap) 0 C f.1 f.2 w := by
      by_cases q : j = i
      · subst q
        cases hj.symm.trans hi
        rw [List.getElem?_set_self (List.getElem?_eq_some_iff.mp hv).1] at hw
        cases hw
        exact (F j (n, d) old hj hv).same W
      · rw [List.getElem?_set_ne q] at hw
        exact (F i f w hi hw).other W (Or.inr (ap i j f (n, d) hi hj (Ne.symm q)))
    obtain ⟨c1, cf, k, i1, f1, q1, r⟩ := F'
    cases (show (#[cl.setSlot (Jvm.RoadKit.slotOf Z C n d) v] : Heap)[0]? = some _ from rfl).symm.trans q1
    exact ⟨_, cf, k, i1, f1, ha2, r⟩
theorem own_db {bs : ByteArray} (h1 : c.code = bs) {r : Except DecodeError (Instr × Nat)} (h2 : decode bs pc = r) : decode c.code pc = r := h1 ▸ h2
/-! steps -/
theorem own_new (A : own_at p l e R s m args below meth c n0 T cells slots its) (hx : p.tables.exec = Jvm.exec) (hZ : Z.Warmed39 s.vm) {C : String} {index n : Nat} (hown : s.vm.findClass own = some m.cls) (w : (Cond.classLink own index C).before a0 Z = true) (wi : (Cond.instantiable C n).before a0 Z = true) (wz : (Cond.initialized C).before a0 Z = true)
    {ns : List (String × String)} {vs : List Value} (hns : ∀ f ∈ ns.zip vs, Laid Z a0 C C f.1.1 f.1.2 ∧ ∃ ty, parseFieldDescriptor f.1.2 = some ty ∧ f.2 = defaultValue ty)
    (hd : decode c.code pc = .ok (.new index, 3)) (hc : cells + 1 ≤ R.cells) (hl : slots + n ≤ R.slots)
    (k : ∀ T', own_at p l e R s m args below meth c n0 T' (cells + 1) (slots + n) (its ++ [own_obj Z C ns vs]) → own_go p e R s below n0 Q (T'.setTop (mkF m (pc + 3) Ls (.ref (n0 + its.length) :: stk)))) :
    own_go p e R s below n0 Q (T.setTop (mkF m pc Ls stk)) := by
  obtain ⟨L, X, N, H⟩ := A
  obtain ⟨vm', cC, kC, h1, h2, h3, h4, X', st⟩ := X.newCold hx hown (mv hZ w) (mv hZ wi) (mv hZ wz) (g := mkF m pc Ls stk) rfl hd hc hl
  rw [H.1] at st
  rw [hZ.alike.findClass] at h1
  obtain ⟨kZ, z1, -⟩ := Vm.findClass_spec h1
  obtain ⟨k', z2, z3⟩ := hZ.alike.2.2 _ _ z1
  cases h2.symm.trans z2
  have ei : kC.instanceTypes = kZ.instanceTypes := by rw [z3]
  refine own_by st (k _ ⟨L, X', N, H.push fun h2 a2 ha2 => ⟨⟨_, kZ, ha2, h1, z1, rfl, fun _ => by simp [ei]⟩, fun i f v hi hv => ?_⟩⟩)
  have hz : (ns.zip vs)[i]? = some (f, v) := List.getElem?_zip_eq_some.mpr ⟨hi, hv⟩
  obtain ⟨La, ty, ht, hdv⟩ := hns _ (List.mem_of_getElem? hz)
  obtain ⟨c1, k1, cf, kf, i1, f1, a1, a2', a3, a4, a5, a6, -⟩ := La.spec
  cases h1.symm.trans a1
  cases z1.symm.trans a2'
  dsimp only at hdv ht a3
  subst hdv
  exact ⟨_, cf, kf, i1, f1, ha2, a3, a4, by simp, rfl, a5, by simp [ei, a6, (State.fieldFound?_type a3 ht).2]⟩
theorem own_fit0 {ty : FieldType} (h0 : defaultValue ty = .int 0) : fits ty (.int 0) = true := by
  cases ty <;> first | rfl | (simp [defaultValue] at h0)
theorem own_newP (A : own_at p l e R s m args below meth c n0 T cells slots its) (hx : p.tables.exec = Jvm.exec) (hZ : Z.Warmed39 s.vm) {aty : ArrayType} (w : (Cond.arrayClass (newarray.typeOf aty)).before a0 Z = true)
    (hd : decode c.code pc = .ok (.newarray aty, 2)) {n : Int32} (q : Nat) (hn : ¬ n < 0 ∧ n.toNatClampNeg = q) {cap : Nat} (hcap : q ≤ cap) (hb : cap * 8 ≤ 536870912) (h0 : defaultValue (newarray.typeOf aty) = .int 0) (hc : cells + 1 ≤ R.cells) (hl : slots + cap ≤ R.slots)
    (k : ∀ T', own_at p l e R s m args below meth c n0 T' (cells + 1) (slots + cap) (its ++ [own_ia Z (newarray.typeOf aty) (List.replicate q 0)]) → own_go p e R s below n0 Q (T'.setTop (mkF m (pc + 2) Ls (.ref (n0 + its.length) :: stk)))) :
    own_go p e R s below n0 Q (T.setTop (mkF m pc Ls (.int n :: stk))) := by
  obtain ⟨L, X, N, H⟩ := A
  obtain ⟨hn, rfl⟩ := hn
  have hcb : componentBytes (newarray.typeOf aty) ≤ 8 := by cases aty <;> decide
  obtain ⟨cA, kA, comp, h1, h2, h3, X', st⟩ := X.newarrayPrim hx (mvA hZ w) (g := mkF m pc Ls (.int n :: stk)) rfl hd rfl hn (Nat.le_trans (Nat.mul_le_mul hcap hcb) hb) hc (by omega)
  rw [H.1] at st
  rw [hZ.alike.findClass] at h1
  obtain ⟨kZ, z1, -⟩ := Vm.findClass_spec h1
  obtain ⟨k', z2, z3⟩ := hZ.alike.2.2 _ _ z1
  cases h2.symm.trans z2
  refine own_by st (k _ ⟨L, X'.more (Nat.le_refl _) (by omega), N, H.push ⟨by rw [List.length_replicate]; exact n.toNatClampNeg_lt, by rw [h0]; simp [List.map_replicate], ⟨by simp, kZ, z1, comp, by rw [← h3, z3]⟩, by simp, fun x hx => ?_, h1⟩⟩)
  rw [List.eq_of_mem_replicate hx]
  exact own_fit0 h0
theorem own_newL (A : own_at p l e R s m args below meth c n0 T cells slots its) (hx : p.tables.exec = Jvm.exec) (hZ : Z.Warmed39 s.vm) (w : (Cond.arrayClass .long).before a0 Z = true)
    (hd : decode c.code pc = .ok (.newarray .long, 2)) {n : Int32} (q : Nat) (hn : ¬ n < 0 ∧ n.toNatClampNeg = q) {cap : Nat} (hcap : q ≤ cap) (hb : cap * 8 ≤ 536870912) (hc : cells + 1 ≤ R.cells) (hl : slots + cap ≤ R.slots)
    (k : ∀ T', own_at p l e R s m args below meth c n0 T' (cells + 1) (slots + cap) (its ++ [own_la Z (List.replicate q 0)]) → own_go p e R s below n0 Q (T'.setTop (mkF m (pc + 2) Ls (.ref (n0 + its.length) :: stk)))) :
    own_go p e R s below n0 Q (T.setTop (mkF m pc Ls (.int n :: stk))) := by
  obtain ⟨L, X, N, H⟩ := A
  obtain ⟨hn, rfl⟩ := hn
  obtain ⟨cA, kA, comp, h1, h2, h3, X', st⟩ := X.newarrayPrim hx (atype := .long) (mvA hZ w) (g := mkF m pc Ls (.int n :: stk)) rfl hd rfl hn (Nat.le_trans (Nat.mul_le_mul hcap (by decide)) hb) hc (by omega)
  rw [H.1] at st
  rw [hZ.alike.findClass] at h1
  obtain ⟨kZ, z1, -⟩ := Vm.findClass_spec h1
  obtain ⟨k', z2, z3⟩ := hZ.alike.2.2 _ _ z1
  cases h2.symm.trans z2
  exact own_by st (k _ ⟨L, X'.more (Nat.le_refl _) (by omega), N, H.push ⟨by rw [List.length_replicate]; exact n.toNatClampNeg_lt, by simp [List.map_replicate, newarray.typeOf, defaultValue], ⟨by simp, kZ, z1, comp, by rw [z3] at h3; exact h3⟩, by simp⟩⟩)
theorem own_getF (A : own_at p l e R s m args below meth c n0 T cells slots its) (hx : p.tables.exec = Jvm.exec) (hZ : Z.Warmed39 s.vm) {C n d : String} {index i : Nat} (hown : s.vm.findClass own = some m.cls) (w : (Cond.fieldLink own index C n d).before a0 Z = true)
    {ns : List (String × String)} {vs : List Value} (hi : its[i]? = some (own_obj Z C ns vs)) (j : Nat) (hj : ns[j]? = some (n, d)) {v : Value} (hv : vs[j]? = some v) (hd : decode c.code pc = .ok (.getfield index, 3))
    (k : ∀ T', own_at p l e R s m args below meth c n0 T' cells slots its → own_go p e R s below n0 Q (T'.setTop (mkF m (pc + 3) Ls (v :: stk)))) :
    own_go p e R s below n0 Q (T.setTop (mkF m pc Ls (.ref (n0 + i) :: stk))) := by
  obtain ⟨L, X, N, H⟩ := A
  obtain ⟨cl, g1, g2⟩ := H.2 i _ hi
  obtain ⟨T', X', e', st⟩ := getF X hx hZ hown (host := "") (Or.inl w) Via.refl rfl ((g2 _ _ g1).2 j _ v hj hv) (g := mkF m pc Ls (.ref (n0 + i) :: stk)) rfl rfl hd
  exact own_by st (k T' ⟨L, X', N, by rw [e']; exact H⟩)
theorem own_putF (A : own_at p l e R s m args below meth c n0 T cells slots its) (hx : p.tables.exec = Jvm.exec) (hZ : Z.Warmed39 s.vm) {C n d : String} {index i kk : Nat} {ty : FieldType} (hown : s.vm.findClass own = some m.cls) (w : (Cond.fieldLink own index C n d).before a0 Z = true)
    {ns : List (String × String)} {vs : List Value} (hi : its[i]? = some (own_obj Z C ns vs)) (j : Nat) (hj : ns[j]? = some (n, d)) {v v' old : Value} (hv : vs[j]? = some old) (ap : own_apart Z C ns)
    (La : (Cond.lays C C n d).before a0 Z = true ∨ ((Cond.laysFinal C C n d).before a0 Z = true ∧ own = C ∧ meth.name = "<init>")) (wi : (Cond.instantiable C kk).before a0 Z = true) (hty : parseFieldDescriptor d = some ty) (hn : narrow ty v = v') (hf : fits ty v' = true)
    (hd : decode c.code pc = .ok (.putfield index, 3)) {its2 : List (Cell → Prop)} (h2 : its.set i (own_obj Z C ns (vs.set j v')) = its2)
    (k : ∀ T', own_at p l e R s m args below meth c n0 T' cells slots its2 → own_go p e R s below n0 Q (T'.setTop (mkF m (pc + 3) Ls stk))) :
    own_go p e R s below n0 Q (T.setTop (mkF m pc Ls (v :: .ref (n0 + i) :: stk))) := by
  obtain ⟨L, X, N, H⟩ := A
  obtain ⟨cl, g1, g2⟩ := H.2 i _ hi
  obtain ⟨T', h', X', e', W, st⟩ := putFN X hx hZ hown w Via.refl rfl ((g2 _ _ g1).2 j _ old hj hv) (g2 _ _ g1).1 La wi hty hn hf (g := mkF m pc Ls (v :: .ref (n0 + i) :: stk)) rfl rfl hd
  have N' := Fr.snoc X' N (Nat.le_add_right n0 i)
  have W2 := W
  obtain ⟨cl2, w1, w2, w3, -⟩ := W2
  refine own_by st (k T' ⟨_, X', N', ?_⟩)
  rw [e', ← h2]
  exact H.wr hi W fun cl3 q1 q2 => by
    cases w1.symm.trans q1
    exact q2.set ap hj hv w3 w2
theorem own_ia.arr {ty : FieldType} {xs : List Int32} {cl : Cell} (O : own_ia Z ty xs cl) {a : Addr} (hc : h[a]? = some cl) : Arr Z h a cl ty := ⟨hc, O.2.2.1, O.2.2.2.1⟩
theorem own_ia.inb {ty : FieldType} {xs : List Int32} {cl : Cell} (O : own_ia Z ty xs cl) {j : Int32} {x : Int32} (hj : ¬ j < 0 ∧ xs[j.toNatClampNeg]? = some x) : ¬ (j < 0 ∨ cl.slots.size ≤ j.toNatClampNeg) ∧ cl.slots[j.toNatClampNeg]? = some (.int x) := by
  have hl := (List.getElem?_eq_some_iff.mp hj.2).1
  refine ⟨fun q => q.elim hj.1 fun q2 => ?_, ?_⟩
  · rw [O.2.1] at q2; simp at q2; omega
  · rw [O.2.1]; simp [hj.2]
theorem own_la.inb {xs : List Int64} {cl : Cell} (O : own_la Z xs cl) {j : Int32} {x : Int64} (hj : ¬ j < 0 ∧ xs[j.toNatClampNeg]? = some x) : ¬ (j < 0 ∨ cl.slots.size ≤ j.toNatClampNeg) ∧ cl.slots[j.toNatClampNeg]? = some (.long x) := by
  have hl := (List.getElem?_eq_some_iff.mp hj.2).1
  refine ⟨fun q => q.elim hj.1 fun q2 => ?_, ?_⟩
  · rw [O.2.1] at q2; simp at q2; omega
  · rw [O.2.1]; simp [hj.2]
theorem own_ia.set {ty : FieldType} {xs : List Int32} {cl : Cell} (O : own_ia Z ty xs cl) (q : Nat) {x : Int32} (hf : fits ty (.int x) = true) : own_ia Z ty (xs.set q x) (cl.setSlot q (.int x)) := by
  refine ⟨by rw [List.length_set]; exact O.1, ?_, O.2.2.1, O.2.2.2.1, fun y hy => ?_, O.2.2.2.2.2⟩
  · rw [Cell.setSlot]; show cl.slots.setIfInBounds q _ = _
    rw [O.2.1, List.setIfInBounds_toArray, List.map_set]
  · rcases List.mem_or_eq_of_mem_set hy with q | rfl
    · exact O.2.2.2.2.1 y q
    · exact hf
theorem own_la.set {xs : List Int64} {cl : Cell} (O : own_la Z xs cl) (q : Nat) {x : Int64} : own_la Z (xs.set q x) (cl.setSlot q (.long x)) := by
  refine ⟨by rw [List.length_set]; exact O.1, ?_, O.2.2.1, O.2.2.2⟩
  rw [Cell.setSlot]; show cl.slots.setIfInBounds q _ = _
  rw [O.2.1, List.setIfInBounds_toArray, List.map_set]
theorem own_iaload (A : own_at p l e R s m args below meth c n0 T cells slots its) (hx : p.tables.exec = Jvm.exec) (hZ : Z.Warmed39 s.vm) {i : Nat} {xs : List Int32} (hi : its[i]? = some (own_ia Z .int xs)) {j x : Int32} (hj : ¬ j < 0 ∧ xs[j.toNatClampNeg]? = some x) (hd : decode c.code pc = .ok (.iaload, 1))
    (k : own_go p e R s below n0 Q (T.setTop (mkF m (pc + 1) Ls (.int x :: stk)))) : own_go p e R s below n0 Q (T.setTop (mkF m pc Ls (.int j :: .ref (n0 + i) :: stk))) := by
  obtain ⟨L, X, N, H⟩ := A
  obtain ⟨cl, g1, g2⟩ := H.2 i _ hi
  exact own_by (fun t k => X.iaload hx g1 (State.isArrayOf_alike hZ.alike g2.2.2.1) g2.2.2.2.1 (g2.inb hj).1 (g2.inb hj).2 (g := mkF m pc Ls (.int j :: .ref (n0 + i) :: stk)) rfl rfl hd t k) k
theorem own_caload (A : own_at p l e R s m args below meth c n0 T cells slots its) (hx : p.tables.exec = Jvm.exec) (hZ : Z.Warmed39 s.vm) {i : Nat} {xs : List Int32} (hi : its[i]? = some (own_ia Z .char xs)) {j x : Int32} (hj : ¬ j < 0 ∧ xs[j.toNatClampNeg]? = some x) (hd : decode c.code pc = .ok (.caload, 1))
    (k : own_go p e R s below n0 Q (T.setTop (mkF m (pc + 1) Ls (.int x :: stk)))) : own_go p e R s below n0 Q (T.setTop (mkF m pc Ls (.int j :: .ref (n0 + i) :: stk))) := by
  obtain ⟨L, X, N, H⟩ := A
  obtain ⟨cl, g1, g2⟩ := H.2 i _ hi
  exact own_by (fun t k => X.caload hx g1 (State.isArrayOf_alike hZ.alike g2.2.2.1) g2.2.2.2.1 (g2.inb hj).1 (g2.inb hj).2 (g := mkF m pc Ls (.int j :: .ref (n0 + i) :: stk)) rfl rfl hd t k) k
theorem own_baload (A : own_at p l e R s m args below meth c n0 T cells slots its) (hx : p.tables.exec = Jvm.exec) (hZ : Z.Warmed39 s.vm) {i : Nat} {xs : List Int32} (hi : its[i]? = some (own_ia Z .byte xs)) {j x : Int32} (hj : ¬ j < 0 ∧ xs[j.toNatClampNeg]? = some x) (hd : decode c.code pc = .ok (.baload, 1))
    (k : own_go p e R s below n0 Q (T.setTop (mkF m (pc + 1) Ls (.int x :: stk)))) : own_go p e R s below n0 Q (T.setTop (mkF m pc Ls (.int j :: .ref (n0 + i) :: stk))) := by
  obtain ⟨L, X, N, H⟩ := A
  obtain ⟨cl, g1, g2⟩ := H.2 i _ hi
  exact own_by (fun t k => X.baloadBytes hx g1 (State.isArrayOf_alike hZ.alike g2.2.2.1) g2.2.2.2.1 (g2.inb hj).1 (g2.inb hj).2 (g := mkF m pc Ls (.int j :: .ref (n0 + i) :: stk)) rfl rfl hd t k) k
theorem own_laload (A : own_at p l e R s m args below meth c n0 T cells slots its) (hx : p.tables.exec = Jvm.exec) (hZ : Z.Warmed39 s.vm) {i : Nat} {xs : List Int64} (hi : its[i]? = some (own_la Z xs)) {j : Int32} {x : Int64} (hj : ¬ j < 0 ∧ xs[j.toNatClampNeg]? = some x) (hd : decode c.code pc = .ok (.laload, 1))
    (k : own_go p e R s below n0 Q (T.setTop (mkF m (pc + 1) Ls (.long x :: stk)))) : own_go p e R s below n0 Q (T.setTop (mkF m pc Ls (.int j :: .ref (n0 + i) :: stk))) := by
  obtain ⟨L, X, N, H⟩ := A
  obtain ⟨cl, g1, g2⟩ := H.2 i _ hi
  exact own_by (fun t k => X.laload hx g1 (State.isArrayOf_alike hZ.alike g2.2.2.1) g2.2.2.2 (g2.inb hj).1 (g2.inb hj).2 (g := mkF m pc Ls (.int j :: .ref (n0 + i) :: stk)) rfl rfl hd t k) k
theorem own_at.wrote (N : Fr n0 locs) (H : own_hp n0 h its) {T' : State} {i sl : Nat} {v : Value} {P P' : Cell → Prop} (X' : Stand p l e R s m args below meth c T' (locs ++ [⟨n0 + i, sl⟩]) cells slots) (e' : T'.heap = h') (hi : its[i]? = some P) (W : Wr h h' (n0 + i) sl v) (hP : ∀ cl, h[n0 + i]? = some cl → P cl → P' (cl.setSlot sl v)) : own_at p l e R s m args below meth c n0 T' cells slots (its.set i P') :=
  ⟨_, X', Fr.snoc X' N (Nat.le_add_right n0 i), by rw [e']; exact H.wr hi W hP⟩
theorem own_ib {xs : List Int32} {ty : FieldType} {cl : Cell} (O : own_ia Z ty xs cl) {j : Int32} {q : Nat} (hj : ¬ j < 0 ∧ j.toNatClampNeg = q ∧ q < xs.length) : ¬ (j < 0 ∨ cl.slots.size ≤ j.toNatClampNeg) := by
  obtain ⟨h1, rfl, h3⟩ := hj
  refine fun z => z.elim h1 fun z => ?_
  rw [O.2.1] at z; simp at z; omega
theorem own_iastore (A : own_at p l e R s m args below meth c n0 T cells slots its) (hx : p.tables.exec = Jvm.exec) (hZ : Z.Warmed39 s.vm) {i : Nat} {xs : List Int32} (hi : its[i]? = some (own_ia Z .int xs)) {j x : Int32} (q : Nat) (hj : ¬ j < 0 ∧ j.toNatClampNeg = q ∧ q < xs.length) (hd : decode c.code pc = .ok (.iastore, 1)) {its2 : List (Cell → Prop)} (h2 : its.set i (own_ia Z .int (xs.set q x)) = its2)
    (k : ∀ T', own_at p l e R s m args below meth c n0 T' cells slots its2 → own_go p e R s below n0 Q (T'.setTop (mkF m (pc + 1) Ls stk))) : own_go p e R s below n0 Q (T.setTop (mkF m pc Ls (.int x :: .int j :: .ref (n0 + i) :: stk))) := by
  obtain ⟨L, X, N, H⟩ := A
  obtain ⟨cl, g1, g2⟩ := H.2 i _ hi
  obtain ⟨T', h', X', e', W, st⟩ := stI X hx hZ rfl (g2.arr g1) (own_ib g2 hj) (g := mkF m pc Ls (.int x :: .int j :: .ref (n0 + i) :: stk)) rfl rfl hd
  obtain ⟨j1, rfl, j3⟩ := hj
  exact own_by st (k T' (h2 ▸ own_at.wrote N H X' e' hi W fun cl _ O => O.set _ rfl))
theorem own_castore (A : own_at p l e R s m args below meth c n0 T cells slots its) (hx : p.tables.exec = Jvm.exec) (hZ : Z.Warmed39 s.vm) {i : Nat} {xs : List Int32} (hi : its[i]? = some (own_ia Z .char xs)) {j x : Int32} (q : Nat) (hj : ¬ j < 0 ∧ j.toNatClampNeg = q ∧ q < xs.length) (hd : decode c.code pc = .ok (.castore, 1)) {its2 : List (Cell → Prop)} (h2 : its.set i (own_ia Z .char (xs.set q (nar .char x))) = its2)
    (k : ∀ T', own_at p l e R s m args below meth c n0 T' cells slots its2 → own_go p e R s below n0 Q (T'.setTop (mkF m (pc + 1) Ls stk))) : own_go p e R s below n0 Q (T.setTop (mkF m pc Ls (.int x :: .int j :: .ref (n0 + i) :: stk))) := by
  obtain ⟨L, X, N, H⟩ := A
  obtain ⟨cl, g1, g2⟩ := H.2 i _ hi
  obtain ⟨T', h', X', e', W, st⟩ := stC X hx hZ rfl (g2.arr g1) (own_ib g2 hj) (g := mkF m pc Ls (.int x :: .int j :: .ref (n0 + i) :: stk)) rfl rfl hd
  obtain ⟨j1, rfl, j3⟩ := hj
  exact own_by st (k T' (h2 ▸ own_at.wrote N H X' e' hi W fun cl _ O => O.set _ (fits_nar_char x)))
theorem own_bastore (A : own_at p l e R s m args below meth c n0 T cells slots its) (hx : p.tables.exec = Jvm.exec) (hZ : Z.Warmed39 s.vm) {i : Nat} {xs : List Int32} (hi : its[i]? = some (own_ia Z .byte xs)) {j x : Int32} (q : Nat) (hj : ¬ j < 0 ∧ j.toNatClampNeg = q ∧ q < xs.length) (hd : decode c.code pc = .ok (.bastore, 1)) {its2 : List (Cell → Prop)} (h2 : its.set i (own_ia Z .byte (xs.set q (nar .byte x))) = its2)
    (k : ∀ T', own_at p l e R s m args below meth c n0 T' cells slots its2 → own_go p e R s below n0 Q (T'.setTop (mkF m (pc + 1) Ls stk))) : own_go p e R s below n0 Q (T.setTop (mkF m pc Ls (.int x :: .int j :: .ref (n0 + i) :: stk))) := by
  obtain ⟨L, X, N, H⟩ := A
  obtain ⟨cl, g1, g2⟩ := H.2 i _ hi
  obtain ⟨T', h', X', e', W, st⟩ := stB X hx hZ rfl (g2.arr g1) (own_ib g2 hj) (g := mkF m pc Ls (.int x :: .int j :: .ref (n0 + i) :: stk)) rfl rfl hd
  obtain ⟨j1, rfl, j3⟩ := hj
  exact own_by st (k T' (h2 ▸ own_at.wrote N H X' e' hi W fun cl _ O => O.set _ (fits_nar_byte x)))
theorem own_lastore (A : own_at p l e R s m args below meth c n0 T cells slots its) (hx : p.tables.exec = Jvm.exec) (hZ : Z.Warmed39 s.vm) {i : Nat} {xs : List Int64} (hi : its[i]? = some (own_la Z xs)) {j : Int32} {x : Int64} (q : Nat) (hj : ¬ j < 0 ∧ j.toNatClampNeg = q ∧ q < xs.length) (hd : decode c.code pc = .ok (.lastore, 1)) {its2 : List (Cell → Prop)} (h2 : its.set i (own_la Z (xs.set q x)) = its2)
    (k : ∀ T', own_at p l e R s m args below meth c n0 T' cells slots its2 → own_go p e R s below n0 Q (T'.setTop (mkF m (pc + 1) Ls stk))) : own_go p e R s below n0 Q (T.setTop (mkF m pc Ls (.long x :: .int j :: .ref (n0 + i) :: stk))) := by
  obtain ⟨L, X, N, H⟩ := A
  obtain ⟨cl, g1, g2⟩ := H.2 i _ hi
  obtain ⟨j1, rfl, j3⟩ := hj
  have hb : ¬ (j < 0 ∨ cl.slots.size ≤ j.toNatClampNeg) := fun z => z.elim j1 fun z => by rw [g2.2.1] at z; simp at z; omega
  obtain ⟨T', h', X', e', W, st⟩ := stJ X hx hZ rfl (⟨g1, g2.2.2.1, g2.2.2.2⟩ : Arr Z T.heap (n0 + i) cl .long) hb (g := mkF m pc Ls (.long x :: .int j :: .ref (n0 + i) :: stk)) rfl rfl hd
  exact own_by st (k T' (h2 ▸ own_at.wrote N H X' e' hi W fun cl _ O => O.set _))
theorem own_len (A : own_at p l e R s m args below meth c n0 T cells slots its) (hx : p.tables.exec = Jvm.exec) (hZ : Z.Warmed39 s.vm) {i : Nat} {ty : FieldType} {xs : List Int32} (hi : its[i]? = some (own_ia Z ty xs)) {z : Int32} (hz : xs.length.toInt32 = z) (hd : decode c.code pc = .ok (.arraylength, 1))
    (k : own_go p e R s below n0 Q (T.setTop (mkF m (pc + 1) Ls (.int z :: stk)))) : own_go p e R s below n0 Q (T.setTop (mkF m pc Ls (.ref (n0 + i) :: stk))) := by
  obtain ⟨L, X, N, H⟩ := A
  obtain ⟨cl, g1, g2⟩ := H.2 i _ hi
  have q : cl.slots.size.toInt32 = z := by rw [g2.2.1]; simpa using hz
  subst q
  exact own_by (fun t k => X.arraylength hx g1 (State.isArrayOf_alike hZ.alike g2.2.2.1) (g := mkF m pc Ls (.ref (n0 + i) :: stk)) rfl rfl hd t k) k
theorem own_lenL (A : own_at p l e R s m args below meth c n0 T cells slots its) (hx : p.tables.exec = Jvm.exec) (hZ : Z.Warmed39 s.vm) {i : Nat} {xs : List Int64} (hi : its[i]? = some (own_la Z xs)) {z : Int32} (hz : xs.length.toInt32 = z) (hd : decode c.code pc = .ok (.arraylength, 1))
    (k : own_go p e R s below n0 Q (T.setTop (mkF m (pc + 1) Ls (.int z :: stk)))) : own_go p e R s below n0 Q (T.setTop (mkF m pc Ls (.ref (n0 + i) :: stk))) := by
  obtain ⟨L, X, N, H⟩ := A
  obtain ⟨cl, g1, g2⟩ := H.2 i _ hi
  have q : cl.slots.size.toInt32 = z := by rw [g2.2.1]; simpa using hz
  subst q
  exact own_by (fun t k => X.arraylength hx g1 (State.isArrayOf_alike hZ.alike g2.2.2.1) (g := mkF m pc Ls (.ref (n0 + i) :: stk)) rfl rfl hd t k) k
theorem own_ldcI (A : own_at p l e R s m args below meth c n0 T cells slots its) (hx : p.tables.exec = Jvm.exec) (hZ : Z.Warmed39 s.vm) (hown : s.vm.findClass own = some m.cls) {index : Nat} {v : Int32} (w : (Cond.constant own index v).before a0 Z = true) (hd : decode c.code pc = .ok (.ldc index, 2))
    (k : own_go p e R s below n0 Q (T.setTop (mkF m (pc + 2) Ls (.int v :: stk)))) : own_go p e R s below n0 Q (T.setTop (mkF m pc Ls stk)) := by
  obtain ⟨L, X, N, H⟩ := A
  exact own_by (X.ldcInt hx hown (mvT hZ w) (g := mkF m pc Ls stk) rfl hd) k
theorem own_ldcJ (A : own_at p l e R s m args below meth c n0 T cells slots its) (hx : p.tables.exec = Jvm.exec) (hZ : Z.Warmed39 s.vm) (hown : s.vm.findClass own = some m.cls) {index : Nat} {v : Int64} (w : (Cond.constantLong own index v).before a0 Z = true) (hd : decode c.code pc = .ok (.ldc2_w index, 3))
    (k : own_go p e R s below n0 Q (T.setTop (mkF m (pc + 3) Ls (.long v :: stk)))) : own_go p e R s below n0 Q (T.setTop (mkF m pc Ls stk)) := by
  obtain ⟨L, X, N, H⟩ := A
  exact own_by (X.ldc2Long hx hown (mvT hZ w) (g := mkF m pc Ls stk) rfl hd) k
theorem own_irem (A : own_at p l e R s m args below meth c n0 T cells slots its) (hx : p.tables.exec = Jvm.exec) {x y : Int32} (hy : y ≠ 0) (hd : decode c.code pc = .ok (.irem, 1))
    (k : own_go p e R s below n0 Q (T.setTop (mkF m (pc + 1) Ls (.int (x % y) :: stk)))) : own_go p e R s below n0 Q (T.setTop (mkF m pc Ls (.int y :: .int x :: stk))) := by
  obtain ⟨L, X, N, H⟩ := A
  exact own_by (fun t k => iremM X hx (g := mkF m pc Ls (.int y :: .int x :: stk)) rfl hd rfl hy k) k
theorem own_lrem (A : own_at p l e R s m args below meth c n0 T cells slots its) (hx : p.tables.exec = Jvm.exec) {x y : Int64} (hy : y ≠ 0) (hd : decode c.code pc = .ok (.lrem, 1))
    (k : own_go p e R s below n0 Q (T.setTop (mkF m (pc + 1) Ls (.long (x % y) :: stk)))) : own_go p e R s below n0 Q (T.setTop (mkF m pc Ls (.long y :: .long x :: stk))) := by
  rw [← lrem_mod] at k
  exact own_by (fun t k => XS.lrem A.here hx (g := mkF m pc Ls (.long y :: .long x :: stk)) rfl hd rfl hy k) k
theorem own_initO (A : own_at p l e R s m args below meth c n0 T cells slots its) (hx : p.tables.exec = Jvm.exec) (hZ : Z.Warmed39 s.vm) (hown : s.vm.findClass own = some m.cls) {idx : Nat} (w1 : (Cond.methodLink own idx Lib.objectInit).before a0 Z = true) (w2 : (Cond.instanceMethod Lib.objectInit).before a0 Z = true) (w3 : (Cond.code Lib.objectInit object_method_1_code 1 none).before a0 Z = true)
    (hml : Ls.size = c.maxLocals) {a : Addr} (hd : decode c.code pc = .ok (.invokespecial idx, 3)) (hf : 1 ≤ R.frames) {W : Nat} (hW : 2 * 0 + (stk.map fun v => v.category).sum ≤ W) (hl : W + 12 ≤ R.locals)
    (k : ∀ T', own_at p l e R s m args below meth c n0 T' cells slots its → own_go p e R s below n0 Q (T'.setTop (mkF m (pc + 3) Ls stk))) : own_go p e R s below n0 Q (T.setTop (mkF m pc Ls (.ref a :: stk))) := by
  obtain ⟨L, X, N, H⟩ := A
  obtain ⟨T', X', e', st⟩ := initO X hx hZ hown w1 w2 w3 rfl (g := mkF m pc Ls (.ref a :: stk)) rfl hml rfl hd hf hW hl
  exact own_by st (k T' ⟨L, X', N, by rw [e']; exact H⟩)
/-! the end -/
theorem own_ret (A : own_at p l e R s m args below meth c n0 T cells slots its) (hx : p.tables.exec = Jvm.exec) (hlk : meth.locks = false) {w : Value} {t : FieldType} {i : Instr} (hret : meth.sig.returnType = some t) (hn : narrow t w = w)
    (hi : (i = .ireturn ∧ (t = .int ∨ t = .boolean ∨ t = .byte ∨ t = .char ∨ t = .short) ∧ ∃ z, w = .int z) ∨ (i = .lreturn ∧ t = .long ∧ ∃ z, w = .long z) ∨ (i = .dreturn ∧ t = .double ∧ ∃ z, w = .double z) ∨ (i = .freturn ∧ t = .float ∧ ∃ z, w = .float z) ∨ (i = .areturn ∧ t.isReference = true ∧ w.isRef = true))
    (hd : decode c.code pc = .ok (i, 1)) (hc : cells ≤ R.cells) (hs : slots ≤ R.slots) (hQ : Q (some w) its) : own_go p e R s below n0 Q (T.setTop (mkF m pc Ls (w :: stk))) := by
  obtain ⟨L, X, N, H⟩ := A
  obtain ⟨fs, hr, hrun, hended, hW, hsame⟩ := X.leave (v := some w) (fun h => by rw [hret] at h; cases h) hlk
  exact ⟨_, _, _, _, retOut X hx hret hn hi hd hr, hrun, hended, hQ, N, H, hW, hsame.mono hc hs⟩
theorem own_retI (A : own_at p l e R s m args below meth c n0 T cells slots its) (hx : p.tables.exec = Jvm.exec) (hlk : meth.locks = false) {w : Int32} (hret : meth.sig.returnType = some .int) (hd : decode c.code pc = .ok (.ireturn, 1)) (hc : cells ≤ R.cells) (hs : slots ≤ R.slots) (hQ : Q (some (.int w)) its) : own_go p e R s below n0 Q (T.setTop (mkF m pc Ls (.int w :: stk))) :=
  own_ret A hx hlk hret rfl (Or.inl ⟨rfl, Or.inl rfl, w, rfl⟩) hd hc hs hQ
theorem own_retJ (A : own_at p l e R s m args below meth c n0 T cells slots its) (hx : p.tables.exec = Jvm.exec) (hlk : meth.locks = false) {w : Int64} (hret : meth.sig.returnType = some .long) (hd : decode c.code pc = .ok (.lreturn, 1)) (hc : cells ≤ R.cells) (hs : slots ≤ R.slots) (hQ : Q (some (.long w)) its) : own_go p e R s below n0 Q (T.setTop (mkF m pc Ls (.long w :: stk))) :=
  own_ret A hx hlk hret rfl (Or.inr (Or.inl ⟨rfl, rfl, w, rfl⟩)) hd hc hs hQ
theorem own_retA (A : own_at p l e R s m args below meth c n0 T cells slots its) (hx : p.tables.exec = Jvm.exec) (hlk : meth.locks = false) {a : Addr} {t : FieldType} (hret : meth.sig.returnType = some t) (hn : narrow t (.ref a) = .ref a) (ht : t.isReference = true) (hd : decode c.code pc = .ok (.areturn, 1)) (hc : cells ≤ R.cells) (hs : slots ≤ R.slots) (hQ : Q (some (.ref a)) its) : own_go p e R s below n0 Q (T.setTop (mkF m pc Ls (.ref a :: stk))) :=
  own_ret A hx hlk hret hn (Or.inr (Or.inr (Or.inr (Or.inr ⟨rfl, ht, rfl⟩)))) hd hc hs hQ
theorem own_retN (A : own_at p l e R s m args below meth c n0 T cells slots its) (hx : p.tables.exec = Jvm.exec) (hlk : meth.locks = false) {w : Int32} {t : FieldType} (ht : t = .boolean ∨ t = .byte ∨ t = .char ∨ t = .short) (hret : meth.sig.returnType = some t) (hd : decode c.code pc = .ok (.ireturn, 1)) (hc : cells ≤ R.cells) (hs : slots ≤ R.slots) (hQ : Q (some (.int (nar t w))) its) : own_go p e R s below n0 Q (T.setTop (mkF m pc Ls (.int w :: stk))) := by
  obtain ⟨L, X, N, H⟩ := A
  obtain ⟨fs, hr, hrun, hended, hW, hsame⟩ := X.leave (v := some (.int (nar t w))) (fun h => by rw [hret] at h; cases h) hlk
  exact ⟨_, _, _, _, retN X hx hret ht hd hr, hrun, hended, hQ, N, H, hW, hsame.mono hc hs⟩
theorem own_retV (A : own_at p l e R s m args below meth c n0 T cells slots its) (hx : p.tables.exec = Jvm.exec) (hlk : meth.locks = false) (hret : meth.sig.returnType = none) (hd : decode c.code pc = .ok (.return_, 1)) (hc : cells ≤ R.cells) (hs : slots ≤ R.slots) (hQ : Q none its) : own_go p e R s below n0 Q (T.setTop (mkF m pc Ls [])) := by
  obtain ⟨L, X, N, H⟩ := A
  obtain ⟨fs, hr, hrun, hended, hW, hsame⟩ := X.leave (v := none) (fun _ => rfl) hlk
  exact ⟨_, _, _, _, X.returnOut hx hret hd hr, hrun, hended, hQ, N, H, hW, hsame.mono hc hs⟩
/-! contracts -/
/-- a method's contract: with these arguments, over a heap whose new part is its, it returns as Q says -/
def own_met (l : Launch) (Z : State) (n0 : Nat) (y : MethodName) (bytes : ByteArray) (maxL : Nat) (ret : Option FieldType) (rm : Room) (as : Array Value) (its : List (Cell → Prop)) (Q : Option Value → List (Cell → Prop) → Prop) : Prop :=
  ∀ (h0 : Heap) (ws : List Jvm.Cond), own_hp n0 h0 its → MetFree l y (head1 (Jvm.Cond.code y bytes maxL ret :: ws) rm) (fun a U => a = as ∧ Z.Warmed39 U.vm ∧ U.heap = h0) (fun _ _ _ _ _ => True) (fun _ U o U' => ∃ v L, o = .returned v ∧ (Fr n0 L ∧ ∃ its', Q v its' ∧ own_hp n0 U'.heap its') ∧ FrameEnd U o U' L rm.cells rm.slots)
variable {y z : MethodName} {bytes : ByteArray} {maxL : Nat} {ret : Option FieldType} {rm : Room} {as : Array Value} {Q' : Option Value → List (Cell → Prop) → Prop}
theorem own_met.of (hpn : plainFor y = true)
    (body : ∀ (p : Program) (e : Env) (s : State) (m : MethodId) (below : List Frame) (meth : Method) (c : Code) (T : State), p.tables.exec = Jvm.exec → c.code = bytes → c.maxLocals = maxL → meth.sig.returnType = ret → meth.locks = false → Z.Warmed39 s.vm → s.vm.findClass y.cls = some m.cls → meth.name = y.name → own_at p l e rm s m as below meth c n0 T 0 0 its → own_go p e rm s below n0 Q (T.setTop (entryFrame m as maxL))) :
    own_met l Z n0 y bytes maxL ret rm as its Q := by
  intro h0 ws H
  refine MetFree.of_bodySF hpn hisR ?_
  intro p e s m args below meth c s₁ Bd hml0 hP hK
  obtain ⟨rfl, hZ, hh⟩ := hP
  have X0 : Stand p l e rm s m args below meth c s₁ [] 0 0 := Stand.of_body Bd
  have e0 : s₁.heap = h0 := by rw [← hh, Bd.state]; rfl
  obtain ⟨t, v, L, its', h1, h2, h3, h4, h5, h6, h7, h8⟩ := body p e s m below meth c s₁ Bd.exec Bd.bytes hml0 Bd.returns (BodyLoose.notSynchronized Bd) hZ (findClass_of_methodNamed Bd.named) (name_of_methodNamed Bd.named Bd.method).1 ⟨[], X0, Fr.nil n0, by rw [e0]; exact H⟩
  exact ⟨t, _, h1, h2, h3, v, L, rfl, ⟨h5, its', h4, h6⟩, ⟨_, rfl⟩, h7, h8⟩
theorem own_post {A B : Pt} {rm : Room} {v : Option Value} (hP : ∃ L, (Fr n0 L ∧ ∃ its', Q' v its' ∧ own_hp n0 B.U.heap its') ∧ B.locs = A.locs ++ L ∧ B.cells = A.cells + rm.cells ∧ B.slots = A.slots + rm.slots) (X : Stand p l e R s m args below meth c B.U B.locs B.cells B.slots) (N : Fr n0 A.locs) :
    ∃ its', Q' v its' ∧ own_at p l e R s m args below meth c n0 B.U (A.cells + rm.cells) (A.slots + rm.slots) its' := by
  obtain ⟨L, ⟨h1, its', h2, h3⟩, h4, h5, h6⟩ := hP
  rw [h4, h5, h6] at X
  exact ⟨its', h2, _, X, N.app h1, h3⟩
theorem own_callS (A : own_at p l e R s m args below meth c n0 T cells slots its) (hx : p.tables.exec = Jvm.exec) (hZ : Z.Warmed39 s.vm) (hown : s.vm.findClass own = some m.cls) {index : Nat} (w1 : (Cond.methodLink own index y).before a0 Z = true) (w2 : (Cond.static y).before a0 Z = true) (w3 : (Cond.initialized y.cls).before a0 Z = true) (w4 : (Cond.code y bytes maxL ret).before a0 Z = true)
    (hy : y.cls ≠ "java/lang/invoke/MethodHandle" ∧ y.cls ≠ "java/lang/invoke/VarHandle") (M : own_met l Z n0 y bytes maxL ret rm as its Q') (hml : Ls.size = c.maxLocals) (argsL : List Value) (has : argsL.toArray = as) (hstk : stk = argsL.reverse ++ rest) {ps : List FieldType} {r : Option FieldType} (pd : parseMethodDescriptor y.desc = some ⟨ps, r⟩) (hlen : argsL.length = ps.length)
    {W : Nat} (hW : 2 * 0 + (rest.map fun v => v.category).sum ≤ W) (hd : decode c.code pc = .ok (.invokestatic index, 3)) (hf : rm.frames + 1 ≤ R.frames) (hl : W + (maxL + 11) + rm.locals ≤ R.locals) (hc : cells + rm.cells ≤ R.cells) (hs : slots + rm.slots ≤ R.slots)
    (k : ∀ (v : Option Value) (its' : List (Cell → Prop)) (T' : State), Q' v its' → own_at p l e R s m args below meth c n0 T' (cells + rm.cells) (slots + rm.slots) its' → own_go p e R s below n0 Q (T'.setTop (mkF m (pc + 3) Ls (v.toList ++ rest)))) :
    own_go p e R s below n0 Q (T.setTop (mkF m pc Ls stk)) := by
  obtain ⟨L, X, N, H⟩ := A
  subst hstk has
  obtain ⟨v, vm1, B, -, XB, hP, st⟩ := Jvm.LawKit.callS X hx (y := y) hown (mvT hZ w1) (mvT hZ w2) (mvT hZ w3) (mvT hZ w4) hy (backOf (W := W) (Q := fun v h L => Fr n0 L ∧ ∃ its', Q' v its' ∧ own_hp n0 h its') (M T.heap [] H) hZ w4 w3 hf hl) (g := mkF m pc Ls (argsL.reverse ++ rest)) rfl hml (argsL := argsL) (rest := rest) (lenOf pd hlen) rfl hW hd (fun _ _ => ⟨rfl, rfl, hc, hs⟩)
  obtain ⟨its', q1, q2⟩ := own_post hP XB N
  exact own_by st (k v its' B.U q1 q2)
theorem own_tr {u u' : State} (st : Steps p.tables e below u u') (k : own_go p e R s below n0 Q u') : own_go p e R s below n0 Q u := own_by (fun _ q => st.trans q) k
theorem own_callC (A : own_at p l e R s m args below meth c n0 T cells slots its) (hx : p.tables.exec = Jvm.exec) (hZ : Z.Warmed39 s.vm) (hown : s.vm.findClass own = some m.cls) {index : Nat} (hy1 : y.name = "<init>") (w1 : (Cond.methodLink own index y).before a0 Z = true) (w2 : (Cond.instanceMethod y).before a0 Z = true) (w3 : (Cond.initialized y.cls).before a0 Z = true) (w4 : (Cond.code y bytes maxL none).before a0 Z = true)
    (hy : y.cls ≠ "java/lang/invoke/MethodHandle" ∧ y.cls ≠ "java/lang/invoke/VarHandle") (M : own_met l Z n0 y bytes maxL none rm as its Q') (hml : Ls.size = c.maxLocals) (a : Addr) (argsL : List Value) (has : (Value.ref a :: argsL).toArray = as) (hstk : stk = argsL.reverse ++ .ref a :: rest) {ps : List FieldType} {r : Option FieldType} (pd : parseMethodDescriptor y.desc = some ⟨ps, r⟩) (hlen : argsL.length = ps.length)
    {W : Nat} (hW : 2 * 0 + (rest.map fun v => v.category).sum ≤ W) (hd : decode c.code pc = .ok (.invokespecial index, 3)) (hf : rm.frames + 1 ≤ R.frames) (hl : W + (maxL + 11) + rm.locals ≤ R.locals) (hc : cells + rm.cells ≤ R.cells) (hs : slots + rm.slots ≤ R.slots)
    (k : ∀ (v : Option Value) (its' : List (Cell → Prop)) (T' : State), Q' v its' → own_at p l e R s m args below meth c n0 T' (cells + rm.cells) (slots + rm.slots) its' → own_go p e R s below n0 Q (T'.setTop (mkF m (pc + 3) Ls (v.toList ++ rest)))) :
    own_go p e R s below n0 Q (T.setTop (mkF m pc Ls stk)) := by
  obtain ⟨L, X, N, H⟩ := A
  subst hstk has
  obtain ⟨v, vm1, B, -, XB, hP, st⟩ := X.specialBack hx (y := y) hy1 hown (mvT hZ w1) (mvT hZ w2) (mvT hZ w4) hy (backOf (W := W) (Q := fun v h L => Fr n0 L ∧ ∃ its', Q' v its' ∧ own_hp n0 h its') (M T.heap [] H) hZ w4 w3 hf hl) (g := mkF m pc Ls (argsL.reverse ++ .ref a :: rest)) rfl hml (Steps.refl _) (a := a) (argsL := argsL) (rest := rest) (lenOf pd hlen) rfl hW hd (fun _ _ => ⟨rfl, rfl, hc, hs⟩)
  obtain ⟨its', q1, q2⟩ := own_post hP XB N
  exact own_tr st (k v its' B.U q1 q2)
theorem own_callV (A : own_at p l e R s m args below meth c n0 T cells slots its) (hx : p.tables.exec = Jvm.exec) (hZ : Z.Warmed39 s.vm) (hown : s.vm.findClass own = some m.cls) {index i : Nat} (w1 : (Cond.methodLink own index y).before a0 Z = true) (w2 : (Cond.declares y).before a0 Z = true) (w3 : (Cond.selects y.cls y y).before a0 Z = true) (w4 : (Cond.instanceMethod y).before a0 Z = true) (w5 : (Cond.initialized y.cls).before a0 Z = true) (w6 : (Cond.code y bytes maxL ret).before a0 Z = true)
    (hy : y.cls ≠ "java/lang/invoke/MethodHandle" ∧ y.cls ≠ "java/lang/invoke/VarHandle") {ns : List (String × String)} {vs : List Value} (hi : its[i]? = some (own_obj Z y.cls ns vs)) (M : own_met l Z n0 y bytes maxL ret rm as its Q') (hml : Ls.size = c.maxLocals) (argsL : List Value) (has : (Value.ref (n0 + i) :: argsL).toArray = as) (hstk : stk = argsL.reverse ++ .ref (n0 + i) :: rest) {ps : List FieldType} {r : Option FieldType} (pd : parseMethodDescriptor y.desc = some ⟨ps, r⟩) (hlen : argsL.length = ps.length)
    {W : Nat} (hW : 2 * 0 + (rest.map fun v => v.category).sum ≤ W) (hd : decode c.code pc = .ok (.invokevirtual index, 3)) (hf : rm.frames + 1 ≤ R.frames) (hl : W + (maxL + 11) + rm.locals ≤ R.locals) (hc : cells + rm.cells ≤ R.cells) (hs : slots + rm.slots ≤ R.slots)
    (k : ∀ (v : Option Value) (its' : List (Cell → Prop)) (T' : State), Q' v its' → own_at p l e R s m args below meth c n0 T' (cells + rm.cells) (slots + rm.slots) its' → own_go p e R s below n0 Q (T'.setTop (mkF m (pc + 3) Ls (v.toList ++ rest)))) :
    own_go p e R s below n0 Q (T.setTop (mkF m pc Ls stk)) := by
  obtain ⟨L, X, N, H⟩ := A
  subst hstk has
  obtain ⟨cl, g1, g2⟩ := H.2 i _ hi
  obtain ⟨cq, kq, q3a, q3b, q3c⟩ := isOf (T := T) hZ rfl (g2 _ _ g1).1
  obtain ⟨v, vm1, B, -, XB, hP, st⟩ := X.virtualBack hx (y := y) (z := y) hown (mvT hZ w1) (mvT hZ w2) (notFace_of_selects (args := #[]) (mvT hZ w3)) (mvT hZ w3) (mvT hZ w4) hy (backOf (W := W) (Q := fun v h L => Fr n0 L ∧ ∃ its', Q' v its' ∧ own_hp n0 h its') (M T.heap [] H) hZ w6 w5 hf hl) q3a q3c (g := mkF m pc Ls (argsL.reverse ++ .ref (n0 + i) :: rest)) rfl hml (Steps.refl _) (argsL := argsL) (rest := rest) (lenOf pd hlen) rfl hW hd (fun _ _ => ⟨rfl, rfl, hc, hs⟩)
  obtain ⟨its', q1, q2⟩ := own_post hP XB N
  exact own_tr st (k v its' B.U q1 q2)
theorem own_callP (A : own_at p l e R s m args below meth c n0 T cells slots its) (hx : p.tables.exec = Jvm.exec) (hZ : Z.Warmed39 s.vm) (hown : s.vm.findClass own = some m.cls) {index i : Nat} (w1 : (Cond.methodLink own index y).before a0 Z = true) (w2 : (Cond.privateMethod y).before a0 Z = true) {kk : Nat} (w3 : (Cond.instantiable y.cls kk).before a0 Z = true) (w4 : (Cond.instanceMethod y).before a0 Z = true) (w5 : (Cond.initialized y.cls).before a0 Z = true) (w6 : (Cond.code y bytes maxL ret).before a0 Z = true)
    (hy : y.cls ≠ "java/lang/invoke/MethodHandle" ∧ y.cls ≠ "java/lang/invoke/VarHandle") {ns : List (String × String)} {vs : List Value} (hi : its[i]? = some (own_obj Z y.cls ns vs)) (M : own_met l Z n0 y bytes maxL ret rm as its Q') (hml : Ls.size = c.maxLocals) (argsL : List Value) (has : (Value.ref (n0 + i) :: argsL).toArray = as) (hstk : stk = argsL.reverse ++ .ref (n0 + i) :: rest) {ps : List FieldType} {r : Option FieldType} (pd : parseMethodDescriptor y.desc = some ⟨ps, r⟩) (hlen : argsL.length = ps.length)
    {W : Nat} (hW : 2 * 0 + (rest.map fun v => v.category).sum ≤ W) (hd : decode c.code pc = .ok (.invokevirtual index, 3)) (hf : rm.frames + 1 ≤ R.frames) (hl : W + (maxL + 11) + rm.locals ≤ R.locals) (hc : cells + rm.cells ≤ R.cells) (hs : slots + rm.slots ≤ R.slots)
    (k : ∀ (v : Option Value) (its' : List (Cell → Prop)) (T' : State), Q' v its' → own_at p l e R s m args below meth c n0 T' (cells + rm.cells) (slots + rm.slots) its' → own_go p e R s below n0 Q (T'.setTop (mkF m (pc + 3) Ls (v.toList ++ rest)))) :
    own_go p e R s below n0 Q (T.setTop (mkF m pc Ls stk)) := by
  obtain ⟨L, X, N, H⟩ := A
  subst hstk has
  obtain ⟨cl, g1, g2⟩ := H.2 i _ hi
  obtain ⟨cq, q3a, q3b⟩ := (g2 _ _ g1).1.cell
  obtain ⟨c1, k1, i1, i2, -, i4, -⟩ := Cond.instantiable_spec (mvT (s := s) (args := args) hZ w3)
  have hpr : s.PrivateAt y := Cond.privateMethod_at (mvP hZ w2 (args := #[]))
  have hsel : (Cond.selects y.cls y y).before args s = true := selects_self_of_private i1 i2 (Bool.or_eq_false_iff.mp i4).1 hpr (mvT hZ w4) hy
  obtain ⟨v, vm1, B, -, XB, hP, st⟩ := X.privateBack hx (y := y) hown (mvT hZ w1) (mvT hZ w4) hsel hpr (mvT hZ w6) hy (backOf (W := W) (Q := fun v h L => Fr n0 L ∧ ∃ its', Q' v its' ∧ own_hp n0 h its') (M T.heap [] H) hZ w6 w5 hf hl) (g := mkF m pc Ls (argsL.reverse ++ .ref (n0 + i) :: rest)) rfl hml (Steps.refl _) (a := n0 + i) q3a q3b (argsL := argsL) (rest := rest) (lenOf pd hlen) rfl hW hd (fun _ _ => ⟨rfl, rfl, hc, hs⟩)
  obtain ⟨its', q1, q2⟩ := own_post hP XB N
  exact own_tr st (k v its' B.U q1 q2)
/-! comparisons of longs -/
theorem own_lc_lt {x y : Int64} (h : x < y) : lcmpW x y < 0 := by rw [lcW]; exact (lc_lt x y).mpr h
theorem own_lc_nlt {x y : Int64} (h : ¬ x < y) : ¬ lcmpW x y < 0 := by rw [lcW]; exact fun q => h ((lc_lt x y).mp q)
theorem own_lc_gt {x y : Int64} (h : y < x) : 0 < lcmpW x y := by rw [lcW]; exact (lc_gt x y).mpr h
theorem own_lc_ngt {x y : Int64} (h : ¬ y < x) : ¬ 0 < lcmpW x y := by rw [lcW]; exact fun q => h ((lc_gt x y).mp q)
theorem own_lc_eq {x y : Int64} (h : x = y) : lcmpW x y = 0 := by subst h; unfold lcmpW; simp
theorem own_lc_ne {x y : Int64} (h : ¬ x = y) : ¬ lcmpW x y = 0 := by
  unfold lcmpW
  (repeat' split) <;> first | decide | (exfalso; exact h (by assumption))
end Own
def own_g (xs : List Int32) (j : Int32) : Int32 := xs.getD j.toNatClampNeg 0
theorem own_rd {xs : List Int32} {j : Int32} {n : Nat} (hn : xs.length = n) (h0 : 0 ≤ j.toInt) (h1 : j.toInt < n) : ¬ j < 0 ∧ xs[j.toNatClampNeg]? = some (own_g xs j) := by
  have e0 : (0 : Int32).toInt = 0 := rfl
  have q : j.toNatClampNeg < xs.length := by rw [Int32.toNatClampNeg]; omega
  refine ⟨by rw [Int32.lt_iff_toInt_lt, e0]; omega, ?_⟩
  unfold own_g
  rw [List.getD_eq_getElem?_getD, List.getElem?_eq_getElem q]; rfl
theorem own_inc {j : Int32} (d : Int32) (n : Nat) (hd : d.toInt = n) (hn : n ≤ 100) (h0 : 0 ≤ j.toInt) (h1 : j.toInt < 1000) : (j + d).toInt = j.toInt + n := by
  have b := rng32 j
  have q := c_iadd j d
  have b2 := rng32 (j + d)
  rw [hd] at q; omega
theorem own_dec {j : Int32} (d : Int32) (n : Nat) (hd : d.toInt = n) (hn : n ≤ 100) (h0 : 0 ≤ j.toInt) (h1 : j.toInt < 1000) : (j - d).toInt = j.toInt - n := by
  have b := rng32 j
  have q := c_isub j d
  have b2 := rng32 (j - d)
  rw [hd] at q; omega
theorem own_lt {a b : Int32} : a < b ↔ a.toInt < b.toInt := Int32.lt_iff_toInt_lt
theorem own_pos (x : Int32) : 0 ≤ (x &&& (2147483647 : Int32)).toInt := (c_and x 2147483647 (by decide)).1
theorem own_rem (x : Int32) (d : Int32) (n : Nat) (hd : d.toInt = n) (hn : 0 < n) : 0 ≤ ((x &&& (2147483647 : Int32)) % d).toInt ∧ ((x &&& (2147483647 : Int32)) % d).toInt < n := by
  have q := (c_irem (x &&& (2147483647 : Int32)) d n hd).1 (own_pos x)
  have m1 := Int.emod_nonneg (x &&& (2147483647 : Int32)).toInt (b := (n : Int)) (by omega)
  have m2 := Int.emod_lt_of_pos (x &&& (2147483647 : Int32)).toInt (b := (n : Int)) (by omega)
  omega

def own_gl (xs : List Int64) (j : Int32) : Int64 := xs.getD j.toNatClampNeg 0
theorem own_rdl {xs : List Int64} {j : Int32} {n : Nat} (hn : xs.length = n) (h0 : 0 ≤ j.toInt) (h1 : j.toInt < n) : ¬ j < 0 ∧ xs[j.toNatClampNeg]? = some (own_gl xs j) := by
  have e0 : (0 : Int32).toInt = 0 := rfl
  have q : j.toNatClampNeg < xs.length := by rw [Int32.toNatClampNeg]; omega
  refine ⟨by rw [Int32.lt_iff_toInt_lt, e0]; omega, ?_⟩
  unfold own_gl
  rw [List.getD_eq_getElem?_getD, List.getElem?_eq_getElem q]; rfl
def own_vt (x : Int32) : Prop := 0 ≤ x.toInt ∧ x.toInt < (3 : Nat)
theorem own_vt0 : own_vt 0 := by unfold own_vt; decide
theorem own_vt1 : own_vt 1 := by unfold own_vt; decide
theorem own_vt2 : own_vt 2 := by unfold own_vt; decide
theorem own_vtc {v : Int32} (h : own_vt v) : v = 0 ∨ v = 1 ∨ v = 2 := by
  obtain ⟨h1, h2⟩ := h
  have e0 : (0 : Int32).toInt = 0 := rfl
  have e1 : (1 : Int32).toInt = 1 := rfl
  have e2 : (2 : Int32).toInt = 2 := rfl
  simp only [← Int32.toInt_inj, e0, e1, e2]
  omega
theorem own_ix3 {α : Type} {xs : List α} {j : Int32} (hl : xs.length = 3) (h : own_vt j) : ¬ j < 0 ∧ j.toNatClampNeg = j.toNatClampNeg ∧ j.toNatClampNeg < xs.length := by
  obtain ⟨h1, h2⟩ := h
  have e0 : (0 : Int32).toInt = 0 := rfl
  refine ⟨by rw [own_lt, e0]; omega, rfl, ?_⟩
  rw [Int32.toNatClampNeg]; omega
theorem own_nat {i j : Int32} (hi : own_vt i) (hj : own_vt j) (h : i.toNatClampNeg = j.toNatClampNeg) : i = j := by
  obtain ⟨h1, h2⟩ := hi
  obtain ⟨h3, h4⟩ := hj
  rw [Int32.toNatClampNeg, Int32.toNatClampNeg] at h
  apply Int32.toInt_inj.mp; omega
theorem own_gset {xs : List Int32} {i j v : Int32} (hl : xs.length = 3) (hi : own_vt i) (hj : own_vt j) : own_g (xs.set i.toNatClampNeg v) j = if j = i then v else own_g xs j := by
  unfold own_g
  rw [List.getD_eq_getElem?_getD, List.getD_eq_getElem?_getD]
  by_cases q : j = i
  · subst q
    rw [if_pos rfl, List.getElem?_set_self (own_ix3 hl hi).2.2]; rfl
  · rw [if_neg q, List.getElem?_set_ne (fun z => q (own_nat hi hj z).symm)]
theorem own_rds {xs : List Int32} {i v : Int32} (hl : xs.length = 3) (hi : own_vt i) : ¬ i < 0 ∧ (xs.set i.toNatClampNeg v)[i.toNatClampNeg]? = some v :=
  ⟨(own_ix3 hl hi).1, List.getElem?_set_self (own_ix3 hl hi).2.2⟩
theorem own_vtg {xs : List Int32} (hl : xs.length = 3) (h : ∀ x ∈ xs, own_vt x) {j : Int32} (hj : own_vt j) : own_vt (own_g xs j) := h _ (List.mem_of_getElem? (own_rd hl hj.1 hj.2).2)
theorem own_vts {xs : List Int32} (h : ∀ x ∈ xs, own_vt x) {v : Int32} (hv : own_vt v) (k : Nat) : ∀ x ∈ xs.set k v, own_vt x := fun x hx => by
  rcases List.mem_or_eq_of_mem_set hx with q | rfl
  · exact h x q
  · exact hv
theorem own_len3 {α : Type} {xs : List α} {k : Nat} {v : α} (h : xs.length = 3) : (xs.set k v).length = 3 := by rw [List.length_set]; exact h
/-- heap and position: three places each, vertices in them; the first n of the heap as Pr says -/
def own_ok (Pr : Int32 → Prop) (n : Int) (H Q : List Int32) : Prop := H.length = 3 ∧ Q.length = 3 ∧ (∀ x ∈ H, own_vt x) ∧ (∀ x ∈ Q, own_vt x) ∧ ∀ j : Int32, own_vt j → j.toInt < n → Pr (own_g H j)
theorem own_okv {Pr : Int32 → Prop} {n : Int} {H Q : List Int32} (h : own_ok Pr n H Q) {j : Int32} (hj : own_vt j) : own_vt (own_g H j) := own_vtg h.1 h.2.2.1 hj
theorem own_okq {Pr : Int32 → Prop} {n : Int} {H Q : List Int32} (h : own_ok Pr n H Q) {j : Int32} (hj : own_vt j) : own_vt (own_g Q j) := own_vtg h.2.1 h.2.2.2.1 hj
theorem own_okle {Pr : Int32 → Prop} {n n' : Int} {H Q : List Int32} (h : own_ok Pr n H Q) (hn : n' ≤ n) : own_ok Pr n' H Q := ⟨h.1, h.2.1, h.2.2.1, h.2.2.2.1, fun j hj q => h.2.2.2.2 j hj (by omega)⟩
theorem own_okT {Pr : Int32 → Prop} {n : Int} {H Q : List Int32} (h : own_ok Pr n H Q) : own_ok (fun _ => True) 0 H Q := ⟨h.1, h.2.1, h.2.2.1, h.2.2.2.1, fun _ _ _ => trivial⟩
theorem own_okP {Pr : Int32 → Prop} {n : Int} {H Q : List Int32} {v i : Int32} (h : own_ok Pr n H Q) (hv : own_vt v) (hi : own_vt i) (hp : i.toInt < n → Pr v) : own_ok Pr n (H.set i.toNatClampNeg v) (Q.set v.toNatClampNeg i) := by
  refine ⟨own_len3 h.1, own_len3 h.2.1, own_vts h.2.2.1 hv _, own_vts h.2.2.2.1 hi _, fun j hj q => ?_⟩
  rw [own_gset h.1 hi hj]
  by_cases z : j = i
  · rw [if_pos z]; subst z; exact hp q
  · rw [if_neg z]; exact h.2.2.2.2 j hj q
theorem own_okA {Pr : Int32 → Prop} {H Q : List Int32} {v sz : Int32} (h : own_ok Pr sz.toInt H Q) (hs : own_vt sz) (hv : own_vt v) (hp : Pr v) : own_ok Pr (sz.toInt + 1) (H.set sz.toNatClampNeg v) (Q.set v.toNatClampNeg sz) ∧ Pr (own_g (H.set sz.toNatClampNeg v) sz) := by
  refine ⟨⟨own_len3 h.1, own_len3 h.2.1, own_vts h.2.2.1 hv _, own_vts h.2.2.2.1 hs _, fun j hj q => ?_⟩, ?_⟩
  · rw [own_gset h.1 hs hj]
    by_cases z : j = sz
    · rw [if_pos z]; exact hp
    · rw [if_neg z]
      refine h.2.2.2.2 j hj ?_
      have : ¬ j.toInt = sz.toInt := fun y => z (Int32.toInt_inj.mp y)
      omega
  · rw [own_gset h.1 hs hs, if_pos rfl]; exact hp
theorem own_par {ii : Int32} (hi : own_vt ii) (h : (0 : Int32) < ii) : ((ii - (1 : Int32)) / (2 : Int32)).toInt = (ii.toInt - 1) / 2 ∧ 0 < ii.toInt := by
  obtain ⟨h1, h2⟩ := hi
  have e0 : (0 : Int32).toInt = 0 := rfl
  rw [own_lt, e0] at h
  have d := own_dec (j := ii) 1 1 rfl (by omega) (by omega) (by omega)
  have q := (c_idiv (ii - 1) 2 2 rfl (by decide)).1 (by omega)
  rw [q, d]; exact ⟨rfl, h⟩
theorem own_parv {ii : Int32} (hi : own_vt ii) (h : (0 : Int32) < ii) : own_vt ((ii - (1 : Int32)) / (2 : Int32)) ∧ ((ii - (1 : Int32)) / (2 : Int32)).toInt < ii.toInt := by
  obtain ⟨q, p⟩ := own_par hi h
  obtain ⟨h1, h2⟩ := hi
  unfold own_vt
  rw [q]; omega
theorem own_chv {ii sz : Int32} (hi : own_vt ii) (hs : sz.toInt ≤ 3) (h : (((2 : Int32) * ii) + (1 : Int32)) < sz) : own_vt (((2 : Int32) * ii) + (1 : Int32)) ∧ ii.toInt + 1 ≤ (((2 : Int32) * ii) + (1 : Int32)).toInt ∧ (((2 : Int32) * ii) + (1 : Int32)).toInt < sz.toInt := by
  obtain ⟨h1, h2⟩ := hi
  have q := c_imul 2 ii
  have q2 := c_iadd (2 * ii) 1
  have b := rng32 (2 * ii)
  have b2 := rng32 (2 * ii + 1)
  have e1 : (1 : Int32).toInt = 1 := rfl
  have e2 : (2 : Int32).toInt = 2 := rfl
  rw [e2] at q
  rw [e1] at q2
  rw [own_lt] at h
  unfold own_vt
  omega
theorem own_chv1 {ii sz : Int32} (hi : own_vt ii) (hs : sz.toInt ≤ 3) (h : (((2 : Int32) * ii) + (1 : Int32)) < sz) (h1 : ((((2 : Int32) * ii) + (1 : Int32)) + (1 : Int32)) < sz) : own_vt ((((2 : Int32) * ii) + (1 : Int32)) + (1 : Int32)) ∧ ii.toInt + 1 ≤ ((((2 : Int32) * ii) + (1 : Int32)) + (1 : Int32)).toInt ∧ ((((2 : Int32) * ii) + (1 : Int32)) + (1 : Int32)).toInt < sz.toInt := by
  obtain ⟨⟨a1, a2⟩, a3, a4⟩ := own_chv hi hs h
  have q := own_inc (j := ((2 : Int32) * ii) + (1 : Int32)) 1 1 rfl (by omega) (by omega) (by omega)
  rw [own_lt] at h1
  unfold own_vt
  omega
theorem own_z0 {ii : Int32} (hk : ii.toInt ≤ ((0 : Nat) : Int)) : ¬ (0 : Int32) < ii := by
  have e0 : (0 : Int32).toInt = 0 := rfl
  rw [own_lt, e0]; omega
theorem own_pk {ii : Int32} {k : Nat} (hi : own_vt ii) (h : (0 : Int32) < ii) (hk : ii.toInt ≤ ((k + 1 : Nat) : Int)) : ((ii - (1 : Int32)) / (2 : Int32)).toInt ≤ (k : Int) := by
  have := (own_parv hi h).2; omega
theorem own_sz1 {sz : Int32} (hs : 1 ≤ sz.toInt ∧ sz.toInt ≤ 3) : (sz - (1 : Int32)).toInt = sz.toInt - 1 := own_dec (j := sz) 1 1 rfl (by omega) (by omega) (by omega)
theorem own_szv {sz : Int32} (hs : 1 ≤ sz.toInt ∧ sz.toInt ≤ 3) : own_vt (sz - (1 : Int32)) := by
  have := own_sz1 hs
  unfold own_vt; omega
theorem own_okR {Pr : Int32 → Prop} {H Q : List Int32} {sz : Int32} (h : own_ok Pr sz.toInt H Q) (hs : 1 ≤ sz.toInt ∧ sz.toInt ≤ 3) : own_ok Pr (sz - (1 : Int32)).toInt (H.set (0 : Int32).toNatClampNeg (own_g H (sz - (1 : Int32)))) (Q.set (own_g H (sz - (1 : Int32))).toNatClampNeg (0 : Int32)) := by
  have e := own_sz1 hs
  exact own_okP (own_okle h (by omega)) (own_okv h (own_szv hs)) own_vt0 (fun _ => h.2.2.2.2 _ (own_szv hs) (by omega))
theorem own_pos0 {sz : Int32} (h : (0 : Int32) < sz) : 0 < sz.toInt := by
  have e0 : (0 : Int32).toInt = 0 := rfl
  rw [own_lt, e0] at h; exact h
theorem own_npos0 {sz : Int32} (h : ¬ (0 : Int32) < sz) : sz.toInt ≤ 0 := by
  have e0 : (0 : Int32).toInt = 0 := rfl
  rw [own_lt, e0] at h; omega
theorem own_cz {ii rc : Int32} (h : 0 ≤ ii.toInt ∧ ii.toInt + ((0 : Nat) : Int) = rc.toInt) : ¬ ii < rc := by rw [own_lt]; omega
theorem own_cs {ii rc : Int32} {k : Nat} (h : 0 ≤ ii.toInt ∧ ii.toInt + ((k + 1 : Nat) : Int) = rc.toInt) : ii < rc := by rw [own_lt]; omega
theorem own_cnx {ii rc : Int32} {k : Nat} (hr : rc.toInt ≤ 3) (h : 0 ≤ ii.toInt ∧ ii.toInt + ((k + 1 : Nat) : Int) = rc.toInt) : own_vt ii ∧ 0 ≤ (ii + (1 : Int32)).toInt ∧ (ii + (1 : Int32)).toInt + (k : Int) = rc.toInt := by
  have q := own_inc (j := ii) 1 1 rfl (by omega) (by omega) (by omega)
  unfold own_vt; omega
theorem own_cl {S S1 R : List Int32} {ii : Int32} (hS1 : S1.length = 3) (hi : own_vt ii) (hr : own_vt (own_g R ii)) (hz : ∀ v, own_vt v → own_g S1 v ≠ 0 → own_g S v ≠ 0 ∧ ∀ j, own_vt j → j.toInt < ii.toInt → own_g R j ≠ v) :
    ∀ v, own_vt v → own_g (S1.set (own_g R ii).toNatClampNeg 0) v ≠ 0 → own_g S v ≠ 0 ∧ ∀ j, own_vt j → j.toInt < (ii + (1 : Int32)).toInt → own_g R j ≠ v := by
  intro v hv h
  obtain ⟨i1, i2⟩ := hi
  have q := own_inc (j := ii) 1 1 rfl (by omega) (by omega) (by omega)
  rw [own_gset hS1 hr hv] at h
  by_cases z : v = own_g R ii
  · rw [if_pos z] at h; exact absurd rfl h
  · rw [if_neg z] at h
    obtain ⟨a, b⟩ := hz v hv h
    refine ⟨a, fun j hj hlt => ?_⟩
    by_cases y : j = ii
    · subst y; exact fun w => z w.symm
    · have : ¬ j.toInt = ii.toInt := fun w => y (Int32.toInt_inj.mp w)
      exact b j hj (by omega)

def ns_SearchState : List (String × String) := [("distance", "[J"), ("state", "[B"), ("queue", "Lcom/example/strandwise/strandwise/network/VertexHeap;"), ("reached", "[I"), ("reachedCount", "I")]
theorem ap_ns_SearchState {Z : State} {a0 : Array Value} (hw : ∀ d ∈ tables_1, d.before a0 Z = true) : own_apart Z "com/example/strandwise/strandwise/network/SearchState" ns_SearchState := own_apart_of (a0 := a0) (own_cons ⟨(Or.inr (hw _ (List.mem_of_getElem? (i := 12) rfl))), (.array .long), by decide⟩ (own_cons ⟨(Or.inr (hw _ (List.mem_of_getElem? (i := 15) rfl))), (.array .byte), by decide⟩ (own_cons ⟨(Or.inr (hw _ (List.mem_of_getElem? (i := 31) rfl))), (.object "com/example/strandwise/strandwise/network/VertexHeap"), by decide⟩ (own_cons ⟨(Or.inr (hw _ (List.mem_of_getElem? (i := 33) rfl))), (.array .int), by decide⟩ (own_cons ⟨(Or.inl (hw _ (List.mem_of_getElem? (i := 45) rfl))), .int, by decide⟩ own_nil))))) (by decide +kernel)
def ns_VertexHeap : List (String × String) := [("key", "[J"), ("heap", "[I"), ("position", "[I"), ("size", "I")]
theorem ap_ns_VertexHeap {Z : State} {a0 : Array Value} (hw : ∀ d ∈ tables_1, d.before a0 Z = true) : own_apart Z "com/example/strandwise/strandwise/network/VertexHeap" ns_VertexHeap := own_apart_of (a0 := a0) (own_cons ⟨(Or.inr (hw _ (List.mem_of_getElem? (i := 24) rfl))), (.array .long), by decide⟩ (own_cons ⟨(Or.inr (hw _ (List.mem_of_getElem? (i := 27) rfl))), (.array .int), by decide⟩ (own_cons ⟨(Or.inr (hw _ (List.mem_of_getElem? (i := 29) rfl))), (.array .int), by decide⟩ (own_cons ⟨(Or.inl (hw _ (List.mem_of_getElem? (i := 52) rfl))), .int, by decide⟩ own_nil)))) (by decide +kernel)
theorem d_prog_64_method_1_0 : decode prog_64_method_1_code 0 = .ok (.aload_n 0, 1) := by decide +kernel
theorem d_prog_64_method_1_1 : decode prog_64_method_1_code 1 = .ok (.invokespecial 1, 3) := by decide +kernel
theorem d_prog_64_method_1_4 : decode prog_64_method_1_code 4 = .ok (.aload_n 0, 1) := by decide +kernel
theorem d_prog_64_method_1_5 : decode prog_64_method_1_code 5 = .ok (.aload_n 1, 1) := by decide +kernel
theorem d_prog_64_method_1_6 : decode prog_64_method_1_code 6 = .ok (.putfield 7, 3) := by decide +kernel
theorem d_prog_64_method_1_9 : decode prog_64_method_1_code 9 = .ok (.aload_n 0, 1) := by decide +kernel
theorem d_prog_64_method_1_10 : decode prog_64_method_1_code 10 = .ok (.aload_n 1, 1) := by decide +kernel
theorem d_prog_64_method_1_11 : decode prog_64_method_1_code 11 = .ok (.arraylength, 1) := by decide +kernel
theorem d_prog_64_method_1_12 : decode prog_64_method_1_code 12 = .ok (.newarray .int, 2) := by decide +kernel
theorem d_prog_64_method_1_14 : decode prog_64_method_1_code 14 = .ok (.putfield 13, 3) := by decide +kernel
theorem d_prog_64_method_1_17 : decode prog_64_method_1_code 17 = .ok (.aload_n 0, 1) := by decide +kernel
theorem d_prog_64_method_1_18 : decode prog_64_method_1_code 18 = .ok (.aload_n 1, 1) := by decide +kernel
theorem d_prog_64_method_1_19 : decode prog_64_method_1_code 19 = .ok (.arraylength, 1) := by decide +kernel
theorem d_prog_64_method_1_20 : decode prog_64_method_1_code 20 = .ok (.newarray .int, 2) := by decide +kernel
theorem d_prog_64_method_1_22 : decode prog_64_method_1_code 22 = .ok (.putfield 17, 3) := by decide +kernel
theorem d_prog_64_method_1_25 : decode prog_64_method_1_code 25 = .ok (.return_, 1) := by decide +kernel
theorem pf_gVC : plainFor (⟨"com/example/strandwise/strandwise/network/VertexHeap", "<init>", "([J)V"⟩ : MethodName) = true := by first | exact plainFor_of_name (by first | (simp [plainName, overriddenIn]; done) | decide +kernel) | decide +kernel
theorem ef_gVC (m : MethodId) (n0 : Nat) : entryFrame m #[(.ref (n0 + 3)), (.ref (n0 + 1))] 2 = (mkF m 0 #[.val (.ref (n0 + 3)), .val (.ref (n0 + 1))] []) := by first | (simp [entryFrame, mkF, argsToLocals, Value.category]; done) | rfl
set_option maxRecDepth 65536 in
set_option maxHeartbeats 40000000 in
theorem gVC (l : Launch) (Z : State) (a0 : Array Value) (hw : ∀ d ∈ tables_1, d.before a0 Z = true) (n0 : Nat)   :
    own_met l Z n0 (⟨"com/example/strandwise/strandwise/network/VertexHeap", "<init>", "([J)V"⟩ : MethodName) prog_64_method_1_code 2 none ({ frames := 1, cells := 2, slots := 6, locals := 12 } : Room) #[(.ref (n0 + 3)), (.ref (n0 + 1))] [(own_obj Z "com/example/strandwise/strandwise/network/SearchState" ns_SearchState [(.ref (n0 + 1)), (.ref (n0 + 2)), .null, .null, (.int (0 : Int32))]), (own_la Z [(0 : Int64), (0 : Int64), (0 : Int64)]), (own_ia Z .byte [(0 : Int32), (0 : Int32), (0 : Int32)]), (own_obj Z "com/example/strandwise/strandwise/network/VertexHeap" ns_VertexHeap [.null, .null, .null, (.int (0 : Int32))])] (fun v its' => v = none ∧ its' = [(own_obj Z "com/example/strandwise/strandwise/network/SearchState" ns_SearchState [(.ref (n0 + 1)), (.ref (n0 + 2)), .null, .null, (.int (0 : Int32))]), (own_la Z [(0 : Int64), (0 : Int64), (0 : Int64)]), (own_ia Z .byte [(0 : Int32), (0 : Int32), (0 : Int32)]), (own_obj Z "com/example/strandwise/strandwise/network/VertexHeap" ns_VertexHeap [(.ref (n0 + 1)), (.ref (n0 + 4)), (.ref (n0 + 5)), (.int (0 : Int32))]), (own_ia Z .int [(0 : Int32), (0 : Int32), (0 : Int32)]), (own_ia Z .int [(0 : Int32), (0 : Int32), (0 : Int32)])]) := by
  refine own_met.of pf_gVC ?_
  intro p e s m below meth c T0 hx hby hml hret hlk hZ hown hnm A0
  replace hown : s.vm.findClass "com/example/strandwise/strandwise/network/VertexHeap" = some m.cls := hown
  replace hml : c.maxLocals = 2 := hml
  rw [ef_gVC m n0]
  show own_go _ _ _ _ _ _ _ (T0.setTop (mkF m 0 #[.val (.ref (n0 + 3)), .val (.ref (n0 + 1))] []))
  refine own_by (u' := T0.setTop (mkF m 1 #[.val (.ref (n0 + 3)), .val (.ref (n0 + 1))] [(.ref (n0 + 3))])) (fun _ k => XS.aloadN A0.here hx rfl (own_db hby d_prog_64_method_1_0) rfl rfl k) ?_
  refine own_initO A0 hx hZ hown (hw _ (List.mem_of_getElem? (i := 22) rfl)) (hw _ (List.mem_of_getElem? (i := 8) rfl)) (hw _ (List.mem_of_getElem? (i := 9) rfl)) (by rw [hml]; rfl) (own_db hby d_prog_64_method_1_1) (by decide) (W := 0) (by show 2 * 0 + _ ≤ _; exact Nat.le_of_eq rfl) (by decide) ?_
  intro T1 A2
  show own_go _ _ _ _ _ _ _ (T1.setTop (mkF m 4 #[.val (.ref (n0 + 3)), .val (.ref (n0 + 1))] []))
  refine own_by (u' := T1.setTop (mkF m 5 #[.val (.ref (n0 + 3)), .val (.ref (n0 + 1))] [(.ref (n0 + 3))])) (fun _ k => XS.aloadN A2.here hx rfl (own_db hby d_prog_64_method_1_4) rfl rfl k) ?_
  refine own_by (u' := T1.setTop (mkF m 6 #[.val (.ref (n0 + 3)), .val (.ref (n0 + 1))] [(.ref (n0 + 1)), (.ref (n0 + 3))])) (fun _ k => XS.aloadN A2.here hx rfl (own_db hby d_prog_64_method_1_5) rfl rfl k) ?_
  refine own_putF A2 hx hZ hown (hw _ (List.mem_of_getElem? (i := 23) rfl)) (i := 3) rfl 0 rfl (v' := (.ref (n0 + 1))) rfl (ap_ns_VertexHeap hw) (Or.inr ⟨(hw _ (List.mem_of_getElem? (i := 24) rfl)), rfl, hnm⟩) (hw _ (List.mem_of_getElem? (i := 17) rfl)) (ty := (.array .long)) (by decide) rfl rfl (own_db hby d_prog_64_method_1_6) (its2 := [(own_obj Z "com/example/strandwise/strandwise/network/SearchState" ns_SearchState [(.ref (n0 + 1)), (.ref (n0 + 2)), .null, .null, (.int (0 : Int32))]), (own_la Z [(0 : Int64), (0 : Int64), (0 : Int64)]), (own_ia Z .byte [(0 : Int32), (0 : Int32), (0 : Int32)]), (own_obj Z "com/example/strandwise/strandwise/network/VertexHeap" ns_VertexHeap [(.ref (n0 + 1)), .null, .null, (.int (0 : Int32))])]) rfl ?_
  intro T3 A4
  show own_go _ _ _ _ _ _ _ (T3.setTop (mkF m 9 #[.val (.ref (n0 + 3)), .val (.ref (n0 + 1))] []))
  refine own_by (u' := T3.setTop (mkF m 10 #[.val (.ref (n0 + 3)), .val (.ref (n0 + 1))] [(.ref (n0 + 3))])) (fun _ k => XS.aloadN A4.here hx rfl (own_db hby d_prog_64_method_1_9) rfl rfl k) ?_
  refine own_by (u' := T3.setTop (mkF m 11 #[.val (.ref (n0 + 3)), .val (.ref (n0 + 1))] [(.ref (n0 + 1)), (.ref (n0 + 3))])) (fun _ k => XS.aloadN A4.here hx rfl (own_db hby d_prog_64_method_1_10) rfl rfl k) ?_
  refine own_lenL A4 hx hZ (i := 1) rfl (z := (3 : Int32)) rfl (own_db hby d_prog_64_method_1_11) ?_
  show own_go _ _ _ _ _ _ _ (T3.setTop (mkF m 12 #[.val (.ref (n0 + 3)), .val (.ref (n0 + 1))] [(.int (3 : Int32)), (.ref (n0 + 3))]))
  refine own_newP (aty := .int) A4 hx hZ (hw _ (List.mem_of_getElem? (i := 25) rfl)) (own_db hby d_prog_64_method_1_12) (3) ⟨by decide, by decide⟩ (cap := 3) (by decide) (by decide) rfl (by decide) (by decide) ?_
  intro T5 A6
  replace A6 : own_at p l e _ s m _ below meth c n0 T5 1 3 [(own_obj Z "com/example/strandwise/strandwise/network/SearchState" ns_SearchState [(.ref (n0 + 1)), (.ref (n0 + 2)), .null, .null, (.int (0 : Int32))]), (own_la Z [(0 : Int64), (0 : Int64), (0 : Int64)]), (own_ia Z .byte [(0 : Int32), (0 : Int32), (0 : Int32)]), (own_obj Z "com/example/strandwise/strandwise/network/VertexHeap" ns_VertexHeap [(.ref (n0 + 1)), .null, .null, (.int (0 : Int32))]), (own_ia Z .int [(0 : Int32), (0 : Int32), (0 : Int32)])] := A6
  show own_go _ _ _ _ _ _ _ (T5.setTop (mkF m 14 #[.val (.ref (n0 + 3)), .val (.ref (n0 + 1))] [(.ref (n0 + 4)), (.ref (n0 + 3))]))
  refine own_putF A6 hx hZ hown (hw _ (List.mem_of_getElem? (i := 26) rfl)) (i := 3) rfl 1 rfl (v' := (.ref (n0 + 4))) rfl (ap_ns_VertexHeap hw) (Or.inr ⟨(hw _ (List.mem_of_getElem? (i := 27) rfl)), rfl, hnm⟩) (hw _ (List.mem_of_getElem? (i := 17) rfl)) (ty := (.array .int)) (by decide) rfl rfl (own_db hby d_prog_64_method_1_14) (its2 := [(own_obj Z "com/example/strandwise/strandwise/network/SearchState" ns_SearchState [(.ref (n0 + 1)), (.ref (n0 + 2)), .null, .null, (.int (0 : Int32))]), (own_la Z [(0 : Int64), (0 : Int64), (0 : Int64)]), (own_ia Z .byte [(0 : Int32), (0 : Int32), (0 : Int32)]), (own_obj Z "com/example/strandwise/strandwise/network/VertexHeap" ns_VertexHeap [(.ref (n0 + 1)), (.ref (n0 + 4)), .null, (.int (0 : Int32))]), (own_ia Z .int [(0 : Int32), (0 : Int32), (0 : Int32)])]) rfl ?_
  intro T7 A8
  show own_go _ _ _ _ _ _ _ (T7.setTop (mkF m 17 #[.val (.ref (n0 + 3)), .val (.ref (n0 + 1))] []))
  refine own_by (u' := T7.setTop (mkF m 18 #[.val (.ref (n0 + 3)), .val (.ref (n0 + 1))] [(.ref (n0 + 3))])) (fun _ k => XS.aloadN A8.here hx rfl (own_db hby d_prog_64_method_1_17) rfl rfl k) ?_
  refine own_by (u' := T7.setTop (mkF m 19 #[.val (.ref (n0 + 3)), .val (.ref (n0 + 1))] [(.ref (n0 + 1)), (.ref (n0 + 3))])) (fun _ k => XS.aloadN A8.here hx rfl (own_db hby d_prog_64_method_1_18) rfl rfl k) ?_
  refine own_lenL A8 hx hZ (i := 1) rfl (z := (3 : Int32)) rfl (own_db hby d_prog_64_method_1_19) ?_
  show own_go _ _ _ _ _ _ _ (T7.setTop (mkF m 20 #[.val (.ref (n0 + 3)), .val (.ref (n0 + 1))] [(.int (3 : Int32)), (.ref (n0 + 3))]))
  refine own_newP (aty := .int) A8 hx hZ (hw _ (List.mem_of_getElem? (i := 25) rfl)) (own_db hby d_prog_64_method_1_20) (3) ⟨by decide, by decide⟩ (cap := 3) (by decide) (by decide) rfl (by decide) (by decide) ?_
  intro T9 A10
  replace A10 : own_at p l e _ s m _ below meth c n0 T9 2 6 [(own_obj Z "com/example/strandwise/strandwise/network/SearchState" ns_SearchState [(.ref (n0 + 1)), (.ref (n0 + 2)), .null, .null, (.int (0 : Int32))]), (own_la Z [(0 : Int64), (0 : Int64), (0 : Int64)]), (own_ia Z .byte [(0 : Int32), (0 : Int32), (0 : Int32)]), (own_obj Z "com/example/strandwise/strandwise/network/VertexHeap" ns_VertexHeap [(.ref (n0 + 1)), (.ref (n0 + 4)), .null, (.int (0 : Int32))]), (own_ia Z .int [(0 : Int32), (0 : Int32), (0 : Int32)]), (own_ia Z .int [(0 : Int32), (0 : Int32), (0 : Int32)])] := A10
  show own_go _ _ _ _ _ _ _ (T9.setTop (mkF m 22 #[.val (.ref (n0 + 3)), .val (.ref (n0 + 1))] [(.ref (n0 + 5)), (.ref (n0 + 3))]))
  refine own_putF A10 hx hZ hown (hw _ (List.mem_of_getElem? (i := 28) rfl)) (i := 3) rfl 2 rfl (v' := (.ref (n0 + 5))) rfl (ap_ns_VertexHeap hw) (Or.inr ⟨(hw _ (List.mem_of_getElem? (i := 29) rfl)), rfl, hnm⟩) (hw _ (List.mem_of_getElem? (i := 17) rfl)) (ty := (.array .int)) (by decide) rfl rfl (own_db hby d_prog_64_method_1_22) (its2 := [(own_obj Z "com/example/strandwise/strandwise/network/SearchState" ns_SearchState [(.ref (n0 + 1)), (.ref (n0 + 2)), .null, .null, (.int (0 : Int32))]), (own_la Z [(0 : Int64), (0 : Int64), (0 : Int64)]), (own_ia Z .byte [(0 : Int32), (0 : Int32), (0 : Int32)]), (own_obj Z "com/example/strandwise/strandwise/network/VertexHeap" ns_VertexHeap [(.ref (n0 + 1)), (.ref (n0 + 4)), (.ref (n0 + 5)), (.int (0 : Int32))]), (own_ia Z .int [(0 : Int32), (0 : Int32), (0 : Int32)]), (own_ia Z .int [(0 : Int32), (0 : Int32), (0 : Int32)])]) rfl ?_
  intro T11 A12
  show own_go _ _ _ _ _ _ _ (T11.setTop (mkF m 25 #[.val (.ref (n0 + 3)), .val (.ref (n0 + 1))] []))
  exact own_retV A12 hx hlk hret (own_db hby d_prog_64_method_1_25) (by decide) (by decide) ⟨rfl, rfl⟩
theorem d_prog_51_method_1_0 : decode prog_51_method_1_code 0 = .ok (.aload_n 0, 1) := by decide +kernel
theorem d_prog_51_method_1_1 : decode prog_51_method_1_code 1 = .ok (.invokespecial 1, 3) := by decide +kernel
theorem d_prog_51_method_1_4 : decode prog_51_method_1_code 4 = .ok (.aload_n 0, 1) := by decide +kernel
theorem d_prog_51_method_1_5 : decode prog_51_method_1_code 5 = .ok (.iload_n 1, 1) := by decide +kernel
theorem d_prog_51_method_1_6 : decode prog_51_method_1_code 6 = .ok (.newarray .long, 2) := by decide +kernel
theorem d_prog_51_method_1_8 : decode prog_51_method_1_code 8 = .ok (.putfield 7, 3) := by decide +kernel
theorem d_prog_51_method_1_11 : decode prog_51_method_1_code 11 = .ok (.aload_n 0, 1) := by decide +kernel
theorem d_prog_51_method_1_12 : decode prog_51_method_1_code 12 = .ok (.iload_n 1, 1) := by decide +kernel
theorem d_prog_51_method_1_13 : decode prog_51_method_1_code 13 = .ok (.newarray .byte, 2) := by decide +kernel
theorem d_prog_51_method_1_15 : decode prog_51_method_1_code 15 = .ok (.putfield 13, 3) := by decide +kernel
theorem d_prog_51_method_1_18 : decode prog_51_method_1_code 18 = .ok (.aload_n 0, 1) := by decide +kernel
theorem d_prog_51_method_1_19 : decode prog_51_method_1_code 19 = .ok (.new 17, 3) := by decide +kernel
theorem d_prog_51_method_1_22 : decode prog_51_method_1_code 22 = .ok (.dup, 1) := by decide +kernel
theorem d_prog_51_method_1_23 : decode prog_51_method_1_code 23 = .ok (.aload_n 0, 1) := by decide +kernel
theorem d_prog_51_method_1_24 : decode prog_51_method_1_code 24 = .ok (.getfield 7, 3) := by decide +kernel
theorem d_prog_51_method_1_27 : decode prog_51_method_1_code 27 = .ok (.invokespecial 19, 3) := by decide +kernel
theorem pd___J_V : parseMethodDescriptor "([J)V" = some ⟨[(.array .long)], none⟩ := by decide +kernel
theorem d_prog_51_method_1_30 : decode prog_51_method_1_code 30 = .ok (.putfield 22, 3) := by decide +kernel
theorem d_prog_51_method_1_33 : decode prog_51_method_1_code 33 = .ok (.aload_n 0, 1) := by decide +kernel
theorem d_prog_51_method_1_34 : decode prog_51_method_1_code 34 = .ok (.iload_n 1, 1) := by decide +kernel
theorem d_prog_51_method_1_35 : decode prog_51_method_1_code 35 = .ok (.newarray .int, 2) := by decide +kernel
theorem d_prog_51_method_1_37 : decode prog_51_method_1_code 37 = .ok (.putfield 26, 3) := by decide +kernel
theorem d_prog_51_method_1_40 : decode prog_51_method_1_code 40 = .ok (.return_, 1) := by decide +kernel
theorem pf_gSC : plainFor (⟨"com/example/strandwise/strandwise/network/SearchState", "<init>", "(I)V"⟩ : MethodName) = true := by first | exact plainFor_of_name (by first | (simp [plainName, overriddenIn]; done) | decide +kernel) | decide +kernel
theorem ef_gSC (m : MethodId) (n0 : Nat) : entryFrame m #[(.ref (n0 + 0)), (.int (3 : Int32))] 2 = (mkF m 0 #[.val (.ref (n0 + 0)), .val (.int (3 : Int32))] []) := by first | (simp [entryFrame, mkF, argsToLocals, Value.category]; done) | rfl
set_option maxRecDepth 65536 in
set_option maxHeartbeats 40000000 in
theorem gSC (l : Launch) (Z : State) (a0 : Array Value) (hw : ∀ d ∈ tables_1, d.before a0 Z = true) (n0 : Nat)   :
    own_met l Z n0 (⟨"com/example/strandwise/strandwise/network/SearchState", "<init>", "(I)V"⟩ : MethodName) prog_51_method_1_code 2 none ({ frames := 2, cells := 6, slots := 19, locals := 27 } : Room) #[(.ref (n0 + 0)), (.int (3 : Int32))] [(own_obj Z "com/example/strandwise/strandwise/network/SearchState" ns_SearchState [.null, .null, .null, .null, (.int (0 : Int32))])] (fun v its' => v = none ∧ its' = [(own_obj Z "com/example/strandwise/strandwise/network/SearchState" ns_SearchState [(.ref (n0 + 1)), (.ref (n0 + 2)), (.ref (n0 + 3)), (.ref (n0 + 6)), (.int (0 : Int32))]), (own_la Z [(0 : Int64), (0 : Int64), (0 : Int64)]), (own_ia Z .byte [(0 : Int32), (0 : Int32), (0 : Int32)]), (own_obj Z "com/example/strandwise/strandwise/network/VertexHeap" ns_VertexHeap [(.ref (n0 + 1)), (.ref (n0 + 4)), (.ref (n0 + 5)), (.int (0 : Int32))]), (own_ia Z .int [(0 : Int32), (0 : Int32), (0 : Int32)]), (own_ia Z .int [(0 : Int32), (0 : Int32), (0 : Int32)]), (own_ia Z .int [(0 : Int32), (0 : Int32), (0 : Int32)])]) := by
  refine own_met.of pf_gSC ?_
  intro p e s m below meth c T0 hx hby hml hret hlk hZ hown hnm A0
  replace hown : s.vm.findClass "com/example/strandwise/strandwise/network/SearchState" = some m.cls := hown
  replace hml : c.maxLocals = 2 := hml
  rw [ef_gSC m n0]
  show own_go _ _ _ _ _ _ _ (T0.setTop (mkF m 0 #[.val (.ref (n0 + 0)), .val (.int (3 : Int32))] []))
  refine own_by (u' := T0.setTop (mkF m 1 #[.val (.ref (n0 + 0)), .val (.int (3 : Int32))] [(.ref (n0 + 0))])) (fun _ k => XS.aloadN A0.here hx rfl (own_db hby d_prog_51_method_1_0) rfl rfl k) ?_
  refine own_initO A0 hx hZ hown (hw _ (List.mem_of_getElem? (i := 7) rfl)) (hw _ (List.mem_of_getElem? (i := 8) rfl)) (hw _ (List.mem_of_getElem? (i := 9) rfl)) (by rw [hml]; rfl) (own_db hby d_prog_51_method_1_1) (by decide) (W := 0) (by show 2 * 0 + _ ≤ _; exact Nat.le_of_eq rfl) (by decide) ?_
  intro T1 A2
  show own_go _ _ _ _ _ _ _ (T1.setTop (mkF m 4 #[.val (.ref (n0 + 0)), .val (.int (3 : Int32))] []))
  refine own_by (u' := T1.setTop (mkF m 5 #[.val (.ref (n0 + 0)), .val (.int (3 : Int32))] [(.ref (n0 + 0))])) (fun _ k => XS.aloadN A2.here hx rfl (own_db hby d_prog_51_method_1_4) rfl rfl k) ?_
  refine own_by (u' := T1.setTop (mkF m 6 #[.val (.ref (n0 + 0)), .val (.int (3 : Int32))] [(.int (3 : Int32)), (.ref (n0 + 0))])) (fun _ k => XS.iloadN A2.here hx rfl (own_db hby d_prog_51_method_1_5) rfl k) ?_
  refine own_newL A2 hx hZ (hw _ (List.mem_of_getElem? (i := 10) rfl)) (own_db hby d_prog_51_method_1_6) (3) ⟨by decide, by decide⟩ (cap := 3) (by decide) (by decide) (by decide) (by decide) ?_
  intro T3 A4
  replace A4 : own_at p l e _ s m _ below meth c n0 T3 1 3 [(own_obj Z "com/example/strandwise/strandwise/network/SearchState" ns_SearchState [.null, .null, .null, .null, (.int (0 : Int32))]), (own_la Z [(0 : Int64), (0 : Int64), (0 : Int64)])] := A4
  show own_go _ _ _ _ _ _ _ (T3.setTop (mkF m 8 #[.val (.ref (n0 + 0)), .val (.int (3 : Int32))] [(.ref (n0 + 1)), (.ref (n0 + 0))]))
  refine own_putF A4 hx hZ hown (hw _ (List.mem_of_getElem? (i := 11) rfl)) (i := 0) rfl 0 rfl (v' := (.ref (n0 + 1))) rfl (ap_ns_SearchState hw) (Or.inr ⟨(hw _ (List.mem_of_getElem? (i := 12) rfl)), rfl, hnm⟩) (hw _ (List.mem_of_getElem? (i := 2) rfl)) (ty := (.array .long)) (by decide) rfl rfl (own_db hby d_prog_51_method_1_8) (its2 := [(own_obj Z "com/example/strandwise/strandwise/network/SearchState" ns_SearchState [(.ref (n0 + 1)), .null, .null, .null, (.int (0 : Int32))]), (own_la Z [(0 : Int64), (0 : Int64), (0 : Int64)])]) rfl ?_
  intro T5 A6
  show own_go _ _ _ _ _ _ _ (T5.setTop (mkF m 11 #[.val (.ref (n0 + 0)), .val (.int (3 : Int32))] []))
  refine own_by (u' := T5.setTop (mkF m 12 #[.val (.ref (n0 + 0)), .val (.int (3 : Int32))] [(.ref (n0 + 0))])) (fun _ k => XS.aloadN A6.here hx rfl (own_db hby d_prog_51_method_1_11) rfl rfl k) ?_
  refine own_by (u' := T5.setTop (mkF m 13 #[.val (.ref (n0 + 0)), .val (.int (3 : Int32))] [(.int (3 : Int32)), (.ref (n0 + 0))])) (fun _ k => XS.iloadN A6.here hx rfl (own_db hby d_prog_51_method_1_12) rfl k) ?_
  refine own_newP (aty := .byte) A6 hx hZ (hw _ (List.mem_of_getElem? (i := 13) rfl)) (own_db hby d_prog_51_method_1_13) (3) ⟨by decide, by decide⟩ (cap := 3) (by decide) (by decide) rfl (by decide) (by decide) ?_
  intro T7 A8
  replace A8 : own_at p l e _ s m _ below meth c n0 T7 2 6 [(own_obj Z "com/example/strandwise/strandwise/network/SearchState" ns_SearchState [(.ref (n0 + 1)), .null, .null, .null, (.int (0 : Int32))]), (own_la Z [(0 : Int64), (0 : Int64), (0 : Int64)]), (own_ia Z .byte [(0 : Int32), (0 : Int32), (0 : Int32)])] := A8
  show own_go _ _ _ _ _ _ _ (T7.setTop (mkF m 15 #[.val (.ref (n0 + 0)), .val (.int (3 : Int32))] [(.ref (n0 + 2)), (.ref (n0 + 0))]))
  refine own_putF A8 hx hZ hown (hw _ (List.mem_of_getElem? (i := 14) rfl)) (i := 0) rfl 1 rfl (v' := (.ref (n0 + 2))) rfl (ap_ns_SearchState hw) (Or.inr ⟨(hw _ (List.mem_of_getElem? (i := 15) rfl)), rfl, hnm⟩) (hw _ (List.mem_of_getElem? (i := 2) rfl)) (ty := (.array .byte)) (by decide) rfl rfl (own_db hby d_prog_51_method_1_15) (its2 := [(own_obj Z "com/example/strandwise/strandwise/network/SearchState" ns_SearchState [(.ref (n0 + 1)), (.ref (n0 + 2)), .null, .null, (.int (0 : Int32))]), (own_la Z [(0 : Int64), (0 : Int64), (0 : Int64)]), (own_ia Z .byte [(0 : Int32), (0 : Int32), (0 : Int32)])]) rfl ?_
  intro T9 A10
  show own_go _ _ _ _ _ _ _ (T9.setTop (mkF m 18 #[.val (.ref (n0 + 0)), .val (.int (3 : Int32))] []))
  refine own_by (u' := T9.setTop (mkF m 19 #[.val (.ref (n0 + 0)), .val (.int (3 : Int32))] [(.ref (n0 + 0))])) (fun _ k => XS.aloadN A10.here hx rfl (own_db hby d_prog_51_method_1_18) rfl rfl k) ?_
  refine own_new (ns := ns_VertexHeap) (vs := [.null, .null, .null, (.int (0 : Int32))]) A10 hx hZ hown (hw _ (List.mem_of_getElem? (i := 16) rfl)) (hw _ (List.mem_of_getElem? (i := 17) rfl)) (hw _ (List.mem_of_getElem? (i := 18) rfl)) (own_cons ⟨(Or.inr (hw _ (List.mem_of_getElem? (i := 24) rfl))), (.array .long), by decide, rfl⟩ (own_cons ⟨(Or.inr (hw _ (List.mem_of_getElem? (i := 27) rfl))), (.array .int), by decide, rfl⟩ (own_cons ⟨(Or.inr (hw _ (List.mem_of_getElem? (i := 29) rfl))), (.array .int), by decide, rfl⟩ (own_cons ⟨(Or.inl (hw _ (List.mem_of_getElem? (i := 52) rfl))), .int, by decide, rfl⟩ own_nil)))) (own_db hby d_prog_51_method_1_19) (by decide) (by decide) ?_
  intro T11 A12
  replace A12 : own_at p l e _ s m _ below meth c n0 T11 3 10 [(own_obj Z "com/example/strandwise/strandwise/network/SearchState" ns_SearchState [(.ref (n0 + 1)), (.ref (n0 + 2)), .null, .null, (.int (0 : Int32))]), (own_la Z [(0 : Int64), (0 : Int64), (0 : Int64)]), (own_ia Z .byte [(0 : Int32), (0 : Int32), (0 : Int32)]), (own_obj Z "com/example/strandwise/strandwise/network/VertexHeap" ns_VertexHeap [.null, .null, .null, (.int (0 : Int32))])] := A12
  show own_go _ _ _ _ _ _ _ (T11.setTop (mkF m 22 #[.val (.ref (n0 + 0)), .val (.int (3 : Int32))] [(.ref (n0 + 3)), (.ref (n0 + 0))]))
  refine own_by (u' := T11.setTop (mkF m 23 #[.val (.ref (n0 + 0)), .val (.int (3 : Int32))] [(.ref (n0 + 3)), (.ref (n0 + 3)), (.ref (n0 + 0))])) (fun _ k => XS.dup A12.here hx rfl (own_db hby d_prog_51_method_1_22) rfl rfl k) ?_
  refine own_by (u' := T11.setTop (mkF m 24 #[.val (.ref (n0 + 0)), .val (.int (3 : Int32))] [(.ref (n0 + 0)), (.ref (n0 + 3)), (.ref (n0 + 3)), (.ref (n0 + 0))])) (fun _ k => XS.aloadN A12.here hx rfl (own_db hby d_prog_51_method_1_23) rfl rfl k) ?_
  refine own_getF A12 hx hZ hown (hw _ (List.mem_of_getElem? (i := 11) rfl)) (i := 0) rfl 0 rfl rfl (own_db hby d_prog_51_method_1_24) ?_
  intro T13 A14
  show own_go _ _ _ _ _ _ _ (T13.setTop (mkF m 27 #[.val (.ref (n0 + 0)), .val (.int (3 : Int32))] [(.ref (n0 + 1)), (.ref (n0 + 3)), (.ref (n0 + 3)), (.ref (n0 + 0))]))
  refine own_callC (y := (⟨"com/example/strandwise/strandwise/network/VertexHeap", "<init>", "([J)V"⟩ : MethodName)) (rest := [(.ref (n0 + 3)), (.ref (n0 + 0))]) A14 hx hZ hown rfl (hw _ (List.mem_of_getElem? (i := 19) rfl)) (hw _ (List.mem_of_getElem? (i := 20) rfl)) (hw _ (List.mem_of_getElem? (i := 18) rfl)) (hw _ (List.mem_of_getElem? (i := 21) rfl)) (by decide) (gVC l Z a0 hw n0) (by rw [hml]; rfl) (n0 + 3) [(.ref (n0 + 1))] rfl rfl pd___J_V rfl (W := 2) (by show 2 * 0 + _ ≤ _; exact Nat.le_of_eq rfl) (own_db hby d_prog_51_method_1_27) (by decide) (by decide) (by decide) (by decide) ?_
  intro v15 i16 T18 hq17 A19
  obtain ⟨rfl, he20⟩ := hq17
  rw [he20] at A19
  replace A19 : own_at p l e _ s m _ below meth c n0 T18 5 16 [(own_obj Z "com/example/strandwise/strandwise/network/SearchState" ns_SearchState [(.ref (n0 + 1)), (.ref (n0 + 2)), .null, .null, (.int (0 : Int32))]), (own_la Z [(0 : Int64), (0 : Int64), (0 : Int64)]), (own_ia Z .byte [(0 : Int32), (0 : Int32), (0 : Int32)]), (own_obj Z "com/example/strandwise/strandwise/network/VertexHeap" ns_VertexHeap [(.ref (n0 + 1)), (.ref (n0 + 4)), (.ref (n0 + 5)), (.int (0 : Int32))]), (own_ia Z .int [(0 : Int32), (0 : Int32), (0 : Int32)]), (own_ia Z .int [(0 : Int32), (0 : Int32), (0 : Int32)])] := A19
  show own_go _ _ _ _ _ _ _ (T18.setTop (mkF m 30 #[.val (.ref (n0 + 0)), .val (.int (3 : Int32))] [(.ref (n0 + 3)), (.ref (n0 + 0))]))
  refine own_putF A19 hx hZ hown (hw _ (List.mem_of_getElem? (i := 30) rfl)) (i := 0) rfl 2 rfl (v' := (.ref (n0 + 3))) rfl (ap_ns_SearchState hw) (Or.inr ⟨(hw _ (List.mem_of_getElem? (i := 31) rfl)), rfl, hnm⟩) (hw _ (List.mem_of_getElem? (i := 2) rfl)) (ty := (.object "com/example/strandwise/strandwise/network/VertexHeap")) (by decide) rfl rfl (own_db hby d_prog_51_method_1_30) (its2 := [(own_obj Z "com/example/strandwise/strandwise/network/SearchState" ns_SearchState [(.ref (n0 + 1)), (.ref (n0 + 2)), (.ref (n0 + 3)), .null, (.int (0 : Int32))]), (own_la Z [(0 : Int64), (0 : Int64), (0 : Int64)]), (own_ia Z .byte [(0 : Int32), (0 : Int32), (0 : Int32)]), (own_obj Z "com/example/strandwise/strandwise/network/VertexHeap" ns_VertexHeap [(.ref (n0 + 1)), (.ref (n0 + 4)), (.ref (n0 + 5)), (.int (0 : Int32))]), (own_ia Z .int [(0 : Int32), (0 : Int32), (0 : Int32)]), (own_ia Z .int [(0 : Int32), (0 : Int32), (0 : Int32)])]) rfl ?_
  intro T21 A22
  show own_go _ _ _ _ _ _ _ (T21.setTop (mkF m 33 #[.val (.ref (n0 + 0)), .val (.int (3 : Int32))] []))
  refine own_by (u' := T21.setTop (mkF m 34 #[.val (.ref (n0 + 0)), .val (.int (3 : Int32))] [(.ref (n0 + 0))])) (fun _ k => XS.aloadN A22.here hx rfl (own_db hby d_prog_51_method_1_33) rfl rfl k) ?_
  refine own_by (u' := T21.setTop (mkF m 35 #[.val (.ref (n0 + 0)), .val (.int (3 : Int32))] [(.int (3 : Int32)), (.ref (n0 + 0))])) (fun _ k => XS.iloadN A22.here hx rfl (own_db hby d_prog_51_method_1_34) rfl k) ?_
  refine own_newP (aty := .int) A22 hx hZ (hw _ (List.mem_of_getElem? (i := 25) rfl)) (own_db hby d_prog_51_method_1_35) (3) ⟨by decide, by decide⟩ (cap := 3) (by decide) (by decide) rfl (by decide) (by decide) ?_
  intro T23 A24
  replace A24 : own_at p l e _ s m _ below meth c n0 T23 6 19 [(own_obj Z "com/example/strandwise/strandwise/network/SearchState" ns_SearchState [(.ref (n0 + 1)), (.ref (n0 + 2)), (.ref (n0 + 3)), .null, (.int (0 : Int32))]), (own_la Z [(0 : Int64), (0 : Int64), (0 : Int64)]), (own_ia Z .byte [(0 : Int32), (0 : Int32), (0 : Int32)]), (own_obj Z "com/example/strandwise/strandwise/network/VertexHeap" ns_VertexHeap [(.ref (n0 + 1)), (.ref (n0 + 4)), (.ref (n0 + 5)), (.int (0 : Int32))]), (own_ia Z .int [(0 : Int32), (0 : Int32), (0 : Int32)]), (own_ia Z .int [(0 : Int32), (0 : Int32), (0 : Int32)]), (own_ia Z .int [(0 : Int32), (0 : Int32), (0 : Int32)])] := A24
  show own_go _ _ _ _ _ _ _ (T23.setTop (mkF m 37 #[.val (.ref (n0 + 0)), .val (.int (3 : Int32))] [(.ref (n0 + 6)), (.ref (n0 + 0))]))
  refine own_putF A24 hx hZ hown (hw _ (List.mem_of_getElem? (i := 32) rfl)) (i := 0) rfl 3 rfl (v' := (.ref (n0 + 6))) rfl (ap_ns_SearchState hw) (Or.inr ⟨(hw _ (List.mem_of_getElem? (i := 33) rfl)), rfl, hnm⟩) (hw _ (List.mem_of_getElem? (i := 2) rfl)) (ty := (.array .int)) (by decide) rfl rfl (own_db hby d_prog_51_method_1_37) (its2 := [(own_obj Z "com/example/strandwise/strandwise/network/SearchState" ns_SearchState [(.ref (n0 + 1)), (.ref (n0 + 2)), (.ref (n0 + 3)), (.ref (n0 + 6)), (.int (0 : Int32))]), (own_la Z [(0 : Int64), (0 : Int64), (0 : Int64)]), (own_ia Z .byte [(0 : Int32), (0 : Int32), (0 : Int32)]), (own_obj Z "com/example/strandwise/strandwise/network/VertexHeap" ns_VertexHeap [(.ref (n0 + 1)), (.ref (n0 + 4)), (.ref (n0 + 5)), (.int (0 : Int32))]), (own_ia Z .int [(0 : Int32), (0 : Int32), (0 : Int32)]), (own_ia Z .int [(0 : Int32), (0 : Int32), (0 : Int32)]), (own_ia Z .int [(0 : Int32), (0 : Int32), (0 : Int32)])]) rfl ?_
  intro T25 A26
  show own_go _ _ _ _ _ _ _ (T25.setTop (mkF m 40 #[.val (.ref (n0 + 0)), .val (.int (3 : Int32))] []))
  exact own_retV A26 hx hlk hret (own_db hby d_prog_51_method_1_40) (by decide) (by decide) ⟨rfl, rfl⟩
theorem d_prog_64_method_8_0 : decode prog_64_method_8_code 0 = .ok (.aload_n 0, 1) := by decide +kernel
theorem d_prog_64_method_8_1 : decode prog_64_method_8_code 1 = .ok (.getfield 7, 3) := by decide +kernel
theorem d_prog_64_method_8_4 : decode prog_64_method_8_code 4 = .ok (.iload_n 1, 1) := by decide +kernel
theorem d_prog_64_method_8_5 : decode prog_64_method_8_code 5 = .ok (.laload, 1) := by decide +kernel
theorem d_prog_64_method_8_6 : decode prog_64_method_8_code 6 = .ok (.aload_n 0, 1) := by decide +kernel
theorem d_prog_64_method_8_7 : decode prog_64_method_8_code 7 = .ok (.getfield 7, 3) := by decide +kernel
theorem d_prog_64_method_8_10 : decode prog_64_method_8_code 10 = .ok (.iload_n 2, 1) := by decide +kernel
theorem d_prog_64_method_8_11 : decode prog_64_method_8_code 11 = .ok (.laload, 1) := by decide +kernel
theorem d_prog_64_method_8_12 : decode prog_64_method_8_code 12 = .ok (.lcmp, 1) := by decide +kernel
theorem d_prog_64_method_8_13 : decode prog_64_method_8_code 13 = .ok (.ifCond .lt 24, 3) := by decide +kernel
theorem d_prog_64_method_8_37 : decode prog_64_method_8_code 37 = .ok (.iconst 1, 1) := by decide +kernel
theorem d_prog_64_method_8_38 : decode prog_64_method_8_code 38 = .ok (.goto 4, 3) := by decide +kernel
theorem d_prog_64_method_8_42 : decode prog_64_method_8_code 42 = .ok (.ireturn, 1) := by decide +kernel
theorem d_prog_64_method_8_16 : decode prog_64_method_8_code 16 = .ok (.aload_n 0, 1) := by decide +kernel
theorem d_prog_64_method_8_17 : decode prog_64_method_8_code 17 = .ok (.getfield 7, 3) := by decide +kernel
theorem d_prog_64_method_8_20 : decode prog_64_method_8_code 20 = .ok (.iload_n 1, 1) := by decide +kernel
theorem d_prog_64_method_8_21 : decode prog_64_method_8_code 21 = .ok (.laload, 1) := by decide +kernel
theorem d_prog_64_method_8_22 : decode prog_64_method_8_code 22 = .ok (.aload_n 0, 1) := by decide +kernel
theorem d_prog_64_method_8_23 : decode prog_64_method_8_code 23 = .ok (.getfield 7, 3) := by decide +kernel
theorem d_prog_64_method_8_26 : decode prog_64_method_8_code 26 = .ok (.iload_n 2, 1) := by decide +kernel
theorem d_prog_64_method_8_27 : decode prog_64_method_8_code 27 = .ok (.laload, 1) := by decide +kernel
theorem d_prog_64_method_8_28 : decode prog_64_method_8_code 28 = .ok (.lcmp, 1) := by decide +kernel
theorem d_prog_64_method_8_29 : decode prog_64_method_8_code 29 = .ok (.ifCond .ne 12, 3) := by decide +kernel
theorem d_prog_64_method_8_32 : decode prog_64_method_8_code 32 = .ok (.iload_n 1, 1) := by decide +kernel
theorem d_prog_64_method_8_33 : decode prog_64_method_8_code 33 = .ok (.iload_n 2, 1) := by decide +kernel
theorem d_prog_64_method_8_34 : decode prog_64_method_8_code 34 = .ok (.if_icmp .ge 7, 3) := by decide +kernel
theorem d_prog_64_method_8_41 : decode prog_64_method_8_code 41 = .ok (.iconst 0, 1) := by decide +kernel
def fP (D : List Int64) (aa : Int32) (bb : Int32) : Int32 := if (own_gl D aa) < (own_gl D bb) then (1 : Int32)
  else if (own_gl D aa) = (own_gl D bb) then (if aa < bb then (1 : Int32)
    else (0 : Int32))
  else (0 : Int32)
theorem pf_gP : plainFor (⟨"com/example/strandwise/strandwise/network/VertexHeap", "precedes", "(II)Z"⟩ : MethodName) = true := by first | exact plainFor_of_name (by first | (simp [plainName, overriddenIn]; done) | decide +kernel) | decide +kernel
theorem ef_gP (m : MethodId) (n0 : Nat) (aa : Int32) (bb : Int32) : entryFrame m #[(.ref (n0 + 3)), (.int aa), (.int bb)] 3 = (mkF m 0 #[.val (.ref (n0 + 3)), .val (.int aa), .val (.int bb)] []) := by first | (simp [entryFrame, mkF, argsToLocals, Value.category]; done) | rfl
set_option maxRecDepth 65536 in
set_option maxHeartbeats 40000000 in
theorem gP (l : Launch) (Z : State) (a0 : Array Value) (hw : ∀ d ∈ tables_1, d.before a0 Z = true) (n0 : Nat) (D : List Int64) (S : List Int32) (H : List Int32) (Q : List Int32) (R : List Int32) (rc : Int32) (sz : Int32) (aa : Int32) (bb : Int32) (hD : D.length = 3) (ha : own_vt aa) (hb : own_vt bb) :
    own_met l Z n0 (⟨"com/example/strandwise/strandwise/network/VertexHeap", "precedes", "(II)Z"⟩ : MethodName) prog_64_method_8_code 3 (some .boolean) ({ frames := 0, cells := 0, slots := 0, locals := 0 } : Room) #[(.ref (n0 + 3)), (.int aa), (.int bb)] [(own_obj Z "com/example/strandwise/strandwise/network/SearchState" ns_SearchState [(.ref (n0 + 1)), (.ref (n0 + 2)), (.ref (n0 + 3)), (.ref (n0 + 6)), (.int rc)]), (own_la Z D), (own_ia Z .byte S), (own_obj Z "com/example/strandwise/strandwise/network/VertexHeap" ns_VertexHeap [(.ref (n0 + 1)), (.ref (n0 + 4)), (.ref (n0 + 5)), (.int sz)]), (own_ia Z .int H), (own_ia Z .int Q), (own_ia Z .int R)] (fun v its' => v = some (.int (fP D aa bb)) ∧ its' = [(own_obj Z "com/example/strandwise/strandwise/network/SearchState" ns_SearchState [(.ref (n0 + 1)), (.ref (n0 + 2)), (.ref (n0 + 3)), (.ref (n0 + 6)), (.int rc)]), (own_la Z D), (own_ia Z .byte S), (own_obj Z "com/example/strandwise/strandwise/network/VertexHeap" ns_VertexHeap [(.ref (n0 + 1)), (.ref (n0 + 4)), (.ref (n0 + 5)), (.int sz)]), (own_ia Z .int H), (own_ia Z .int Q), (own_ia Z .int R)]) := by
  refine own_met.of pf_gP ?_
  intro p e s m below meth c T0 hx hby hml hret hlk hZ hown hnm A0
  replace hown : s.vm.findClass "com/example/strandwise/strandwise/network/VertexHeap" = some m.cls := hown
  replace hml : c.maxLocals = 3 := hml
  rw [ef_gP m n0 aa bb]
  show own_go _ _ _ _ _ _ _ (T0.setTop (mkF m 0 #[.val (.ref (n0 + 3)), .val (.int aa), .val (.int bb)] []))
  refine own_by (u' := T0.setTop (mkF m 1 #[.val (.ref (n0 + 3)), .val (.int aa), .val (.int bb)] [(.ref (n0 + 3))])) (fun _ k => XS.aloadN A0.here hx rfl (own_db hby d_prog_64_method_8_0) rfl rfl k) ?_
  refine own_getF A0 hx hZ hown (hw _ (List.mem_of_getElem? (i := 23) rfl)) (i := 3) rfl 0 rfl rfl (own_db hby d_prog_64_method_8_1) ?_
  intro T1 A2
  show own_go _ _ _ _ _ _ _ (T1.setTop (mkF m 4 #[.val (.ref (n0 + 3)), .val (.int aa), .val (.int bb)] [(.ref (n0 + 1))]))
  refine own_by (u' := T1.setTop (mkF m 5 #[.val (.ref (n0 + 3)), .val (.int aa), .val (.int bb)] [(.int aa), (.ref (n0 + 1))])) (fun _ k => XS.iloadN A2.here hx rfl (own_db hby d_prog_64_method_8_4) rfl k) ?_
  refine own_laload A2 hx hZ (i := 1) rfl (x := (own_gl D aa)) (own_rdl hD ha.1 ha.2) (own_db hby d_prog_64_method_8_5) ?_
  show own_go _ _ _ _ _ _ _ (T1.setTop (mkF m 6 #[.val (.ref (n0 + 3)), .val (.int aa), .val (.int bb)] [(.long (own_gl D aa))]))
  refine own_by (u' := T1.setTop (mkF m 7 #[.val (.ref (n0 + 3)), .val (.int aa), .val (.int bb)] [(.ref (n0 + 3)), (.long (own_gl D aa))])) (fun _ k => XS.aloadN A2.here hx rfl (own_db hby d_prog_64_method_8_6) rfl rfl k) ?_
  refine own_getF A2 hx hZ hown (hw _ (List.mem_of_getElem? (i := 23) rfl)) (i := 3) rfl 0 rfl rfl (own_db hby d_prog_64_method_8_7) ?_
  intro T3 A4
  show own_go _ _ _ _ _ _ _ (T3.setTop (mkF m 10 #[.val (.ref (n0 + 3)), .val (.int aa), .val (.int bb)] [(.ref (n0 + 1)), (.long (own_gl D aa))]))
  refine own_by (u' := T3.setTop (mkF m 11 #[.val (.ref (n0 + 3)), .val (.int aa), .val (.int bb)] [(.int bb), (.ref (n0 + 1)), (.long (own_gl D aa))])) (fun _ k => XS.iloadN A4.here hx rfl (own_db hby d_prog_64_method_8_10) rfl k) ?_
  refine own_laload A4 hx hZ (i := 1) rfl (x := (own_gl D bb)) (own_rdl hD hb.1 hb.2) (own_db hby d_prog_64_method_8_11) ?_
  show own_go _ _ _ _ _ _ _ (T3.setTop (mkF m 12 #[.val (.ref (n0 + 3)), .val (.int aa), .val (.int bb)] [(.long (own_gl D bb)), (.long (own_gl D aa))]))
  refine own_by (u' := T3.setTop (mkF m 13 #[.val (.ref (n0 + 3)), .val (.int aa), .val (.int bb)] [(.int (lcmpW (own_gl D aa) (own_gl D bb)))])) (fun _ k => XS.lcmp A4.here hx rfl (own_db hby d_prog_64_method_8_12) rfl k) ?_
  by_cases hc5 : (own_gl D aa) < (own_gl D bb)
  · refine own_by (u' := T3.setTop (mkF m 37 #[.val (.ref (n0 + 3)), .val (.int aa), .val (.int bb)] [])) (fun _ k => XS.ifYes A4.here hx rfl (pc0 := 13) (pc' := 37) rfl (own_db hby d_prog_64_method_8_13) rfl ((if0 _ _).trans (tlt (own_lc_lt hc5)).1) (by decide) (by decide) k) ?_
    refine own_by (u' := T3.setTop (mkF m 38 #[.val (.ref (n0 + 3)), .val (.int aa), .val (.int bb)] [(.int (1 : Int32))])) (fun _ k => XS.iconst A4.here hx rfl (own_db hby d_prog_64_method_8_37) k) ?_
    refine own_by (u' := T3.setTop (mkF m 42 #[.val (.ref (n0 + 3)), .val (.int aa), .val (.int bb)] [(.int (1 : Int32))])) (fun _ k => XS.goto A4.here hx rfl (pc0 := 38) (pc' := 42) rfl (own_db hby d_prog_64_method_8_38) (by decide) (by decide) k) ?_
    exact own_retN A4 hx hlk (t := .boolean) (by simp) hret (own_db hby d_prog_64_method_8_42) (by decide) (by decide) ⟨by rw [show fP D aa bb = (1 : Int32) from by unfold fP; simp only [if_pos hc5]] <;> rfl, rfl⟩
  · refine own_by (u' := T3.setTop (mkF m 16 #[.val (.ref (n0 + 3)), .val (.int aa), .val (.int bb)] [])) (fun _ k => XS.ifNo A4.here hx rfl (own_db hby d_prog_64_method_8_13) rfl ((if0 _ _).trans (flt (own_lc_nlt hc5)).1) k) ?_
    refine own_by (u' := T3.setTop (mkF m 17 #[.val (.ref (n0 + 3)), .val (.int aa), .val (.int bb)] [(.ref (n0 + 3))])) (fun _ k => XS.aloadN A4.here hx rfl (own_db hby d_prog_64_method_8_16) rfl rfl k) ?_
    refine own_getF A4 hx hZ hown (hw _ (List.mem_of_getElem? (i := 23) rfl)) (i := 3) rfl 0 rfl rfl (own_db hby d_prog_64_method_8_17) ?_
    intro T6 A7
    show own_go _ _ _ _ _ _ _ (T6.setTop (mkF m 20 #[.val (.ref (n0 + 3)), .val (.int aa), .val (.int bb)] [(.ref (n0 + 1))]))
    refine own_by (u' := T6.setTop (mkF m 21 #[.val (.ref (n0 + 3)), .val (.int aa), .val (.int bb)] [(.int aa), (.ref (n0 + 1))])) (fun _ k => XS.iloadN A7.here hx rfl (own_db hby d_prog_64_method_8_20) rfl k) ?_
    refine own_laload A7 hx hZ (i := 1) rfl (x := (own_gl D aa)) (own_rdl hD ha.1 ha.2) (own_db hby d_prog_64_method_8_21) ?_
    show own_go _ _ _ _ _ _ _ (T6.setTop (mkF m 22 #[.val (.ref (n0 + 3)), .val (.int aa), .val (.int bb)] [(.long (own_gl D aa))]))
    refine own_by (u' := T6.setTop (mkF m 23 #[.val (.ref (n0 + 3)), .val (.int aa), .val (.int bb)] [(.ref (n0 + 3)), (.long (own_gl D aa))])) (fun _ k => XS.aloadN A7.here hx rfl (own_db hby d_prog_64_method_8_22) rfl rfl k) ?_
    refine own_getF A7 hx hZ hown (hw _ (List.mem_of_getElem? (i := 23) rfl)) (i := 3) rfl 0 rfl rfl (own_db hby d_prog_64_method_8_23) ?_
    intro T8 A9
    show own_go _ _ _ _ _ _ _ (T8.setTop (mkF m 26 #[.val (.ref (n0 + 3)), .val (.int aa), .val (.int bb)] [(.ref (n0 + 1)), (.long (own_gl D aa))]))
    refine own_by (u' := T8.setTop (mkF m 27 #[.val (.ref (n0 + 3)), .val (.int aa), .val (.int bb)] [(.int bb), (.ref (n0 + 1)), (.long (own_gl D aa))])) (fun _ k => XS.iloadN A9.here hx rfl (own_db hby d_prog_64_method_8_26) rfl k) ?_
    refine own_laload A9 hx hZ (i := 1) rfl (x := (own_gl D bb)) (own_rdl hD hb.1 hb.2) (own_db hby d_prog_64_method_8_27) ?_
    show own_go _ _ _ _ _ _ _ (T8.setTop (mkF m 28 #[.val (.ref (n0 + 3)), .val (.int aa), .val (.int bb)] [(.long (own_gl D bb)), (.long (own_gl D aa))]))
    refine own_by (u' := T8.setTop (mkF m 29 #[.val (.ref (n0 + 3)), .val (.int aa), .val (.int bb)] [(.int (lcmpW (own_gl D aa) (own_gl D bb)))])) (fun _ k => XS.lcmp A9.here hx rfl (own_db hby d_prog_64_method_8_28) rfl k) ?_
    by_cases hc10 : (own_gl D aa) = (own_gl D bb)
    · refine own_by (u' := T8.setTop (mkF m 32 #[.val (.ref (n0 + 3)), .val (.int aa), .val (.int bb)] [])) (fun _ k => XS.ifNo A9.here hx rfl (own_db hby d_prog_64_method_8_29) rfl ((if0 _ _).trans (teq (own_lc_eq hc10)).2) k) ?_
      refine own_by (u' := T8.setTop (mkF m 33 #[.val (.ref (n0 + 3)), .val (.int aa), .val (.int bb)] [(.int aa)])) (fun _ k => XS.iloadN A9.here hx rfl (own_db hby d_prog_64_method_8_32) rfl k) ?_
      refine own_by (u' := T8.setTop (mkF m 34 #[.val (.ref (n0 + 3)), .val (.int aa), .val (.int bb)] [(.int bb), (.int aa)])) (fun _ k => XS.iloadN A9.here hx rfl (own_db hby d_prog_64_method_8_33) rfl k) ?_
      by_cases hc11 : aa < bb
      · refine own_by (u' := T8.setTop (mkF m 37 #[.val (.ref (n0 + 3)), .val (.int aa), .val (.int bb)] [])) (fun _ k => XS.icmpNo A9.here hx rfl (own_db hby d_prog_64_method_8_34) rfl (tlt hc11).2.1 k) ?_
        refine own_by (u' := T8.setTop (mkF m 38 #[.val (.ref (n0 + 3)), .val (.int aa), .val (.int bb)] [(.int (1 : Int32))])) (fun _ k => XS.iconst A9.here hx rfl (own_db hby d_prog_64_method_8_37) k) ?_
        refine own_by (u' := T8.setTop (mkF m 42 #[.val (.ref (n0 + 3)), .val (.int aa), .val (.int bb)] [(.int (1 : Int32))])) (fun _ k => XS.goto A9.here hx rfl (pc0 := 38) (pc' := 42) rfl (own_db hby d_prog_64_method_8_38) (by decide) (by decide) k) ?_
        exact own_retN A9 hx hlk (t := .boolean) (by simp) hret (own_db hby d_prog_64_method_8_42) (by decide) (by decide) ⟨by rw [show fP D aa bb = (1 : Int32) from by unfold fP; simp only [if_neg hc5, if_pos hc10, if_pos hc11]] <;> rfl, rfl⟩
      · refine own_by (u' := T8.setTop (mkF m 41 #[.val (.ref (n0 + 3)), .val (.int aa), .val (.int bb)] [])) (fun _ k => XS.icmpYes A9.here hx rfl (pc0 := 34) (pc' := 41) rfl (own_db hby d_prog_64_method_8_34) rfl (flt hc11).2.1 (by decide) (by decide) k) ?_
        refine own_by (u' := T8.setTop (mkF m 42 #[.val (.ref (n0 + 3)), .val (.int aa), .val (.int bb)] [(.int (0 : Int32))])) (fun _ k => XS.iconst A9.here hx rfl (own_db hby d_prog_64_method_8_41) k) ?_
        exact own_retN A9 hx hlk (t := .boolean) (by simp) hret (own_db hby d_prog_64_method_8_42) (by decide) (by decide) ⟨by rw [show fP D aa bb = (0 : Int32) from by unfold fP; simp only [if_neg hc5, if_pos hc10, if_neg hc11]] <;> rfl, rfl⟩
    · refine own_by (u' := T8.setTop (mkF m 41 #[.val (.ref (n0 + 3)), .val (.int aa), .val (.int bb)] [])) (fun _ k => XS.ifYes A9.here hx rfl (pc0 := 29) (pc' := 41) rfl (own_db hby d_prog_64_method_8_29) rfl ((if0 _ _).trans (feq (own_lc_ne hc10)).2) (by decide) (by decide) k) ?_
      refine own_by (u' := T8.setTop (mkF m 42 #[.val (.ref (n0 + 3)), .val (.int aa), .val (.int bb)] [(.int (0 : Int32))])) (fun _ k => XS.iconst A9.here hx rfl (own_db hby d_prog_64_method_8_41) k) ?_
      exact own_retN A9 hx hlk (t := .boolean) (by simp) hret (own_db hby d_prog_64_method_8_42) (by decide) (by decide) ⟨by rw [show fP D aa bb = (0 : Int32) from by unfold fP; simp only [if_neg hc5, if_neg hc10]] <;> rfl, rfl⟩
theorem d_prog_64_method_11_0 : decode prog_64_method_11_code 0 = .ok (.aload_n 0, 1) := by decide +kernel
theorem d_prog_64_method_11_1 : decode prog_64_method_11_code 1 = .ok (.getfield 13, 3) := by decide +kernel
theorem d_prog_64_method_11_4 : decode prog_64_method_11_code 4 = .ok (.iload_n 2, 1) := by decide +kernel
theorem d_prog_64_method_11_5 : decode prog_64_method_11_code 5 = .ok (.iload_n 1, 1) := by decide +kernel
theorem d_prog_64_method_11_6 : decode prog_64_method_11_code 6 = .ok (.iastore, 1) := by decide +kernel
theorem d_prog_64_method_11_7 : decode prog_64_method_11_code 7 = .ok (.aload_n 0, 1) := by decide +kernel
theorem d_prog_64_method_11_8 : decode prog_64_method_11_code 8 = .ok (.getfield 17, 3) := by decide +kernel
theorem d_prog_64_method_11_11 : decode prog_64_method_11_code 11 = .ok (.iload_n 1, 1) := by decide +kernel
theorem d_prog_64_method_11_12 : decode prog_64_method_11_code 12 = .ok (.iload_n 2, 1) := by decide +kernel
theorem d_prog_64_method_11_13 : decode prog_64_method_11_code 13 = .ok (.iastore, 1) := by decide +kernel
theorem d_prog_64_method_11_14 : decode prog_64_method_11_code 14 = .ok (.return_, 1) := by decide +kernel
theorem pf_gL : plainFor (⟨"com/example/strandwise/strandwise/network/VertexHeap", "place", "(II)V"⟩ : MethodName) = true := by first | exact plainFor_of_name (by first | (simp [plainName, overriddenIn]; done) | decide +kernel) | decide +kernel
theorem ef_gL (m : MethodId) (n0 : Nat) (vx : Int32) (ix : Int32) : entryFrame m #[(.ref (n0 + 3)), (.int vx), (.int ix)] 3 = (mkF m 0 #[.val (.ref (n0 + 3)), .val (.int vx), .val (.int ix)] []) := by first | (simp [entryFrame, mkF, argsToLocals, Value.category]; done) | rfl
set_option maxRecDepth 65536 in
set_option maxHeartbeats 40000000 in
theorem gL (l : Launch) (Z : State) (a0 : Array Value) (hw : ∀ d ∈ tables_1, d.before a0 Z = true) (n0 : Nat) (D : List Int64) (S : List Int32) (H : List Int32) (Q : List Int32) (R : List Int32) (rc : Int32) (sz : Int32) (vx : Int32) (ix : Int32) (hH : H.length = 3) (hQ : Q.length = 3) (hv : own_vt vx) (hi : own_vt ix) :
    own_met l Z n0 (⟨"com/example/strandwise/strandwise/network/VertexHeap", "place", "(II)V"⟩ : MethodName) prog_64_method_11_code 3 none ({ frames := 0, cells := 0, slots := 0, locals := 0 } : Room) #[(.ref (n0 + 3)), (.int vx), (.int ix)] [(own_obj Z "com/example/strandwise/strandwise/network/SearchState" ns_SearchState [(.ref (n0 + 1)), (.ref (n0 + 2)), (.ref (n0 + 3)), (.ref (n0 + 6)), (.int rc)]), (own_la Z D), (own_ia Z .byte S), (own_obj Z "com/example/strandwise/strandwise/network/VertexHeap" ns_VertexHeap [(.ref (n0 + 1)), (.ref (n0 + 4)), (.ref (n0 + 5)), (.int sz)]), (own_ia Z .int H), (own_ia Z .int Q), (own_ia Z .int R)] (fun v its' => v = none ∧ its' = [(own_obj Z "com/example/strandwise/strandwise/network/SearchState" ns_SearchState [(.ref (n0 + 1)), (.ref (n0 + 2)), (.ref (n0 + 3)), (.ref (n0 + 6)), (.int rc)]), (own_la Z D), (own_ia Z .byte S), (own_obj Z "com/example/strandwise/strandwise/network/VertexHeap" ns_VertexHeap [(.ref (n0 + 1)), (.ref (n0 + 4)), (.ref (n0 + 5)), (.int sz)]), (own_ia Z .int (H.set ix.toNatClampNeg vx)), (own_ia Z .int (Q.set vx.toNatClampNeg ix)), (own_ia Z .int R)]) := by
  refine own_met.of pf_gL ?_
  intro p e s m below meth c T0 hx hby hml hret hlk hZ hown hnm A0
  replace hown : s.vm.findClass "com/example/strandwise/strandwise/network/VertexHeap" = some m.cls := hown
  replace hml : c.maxLocals = 3 := hml
  rw [ef_gL m n0 vx ix]
  show own_go _ _ _ _ _ _ _ (T0.setTop (mkF m 0 #[.val (.ref (n0 + 3)), .val (.int vx), .val (.int ix)] []))
  refine own_by (u' := T0.setTop (mkF m 1 #[.val (.ref (n0 + 3)), .val (.int vx), .val (.int ix)] [(.ref (n0 + 3))])) (fun _ k => XS.aloadN A0.here hx rfl (own_db hby d_prog_64_method_11_0) rfl rfl k) ?_
  refine own_getF A0 hx hZ hown (hw _ (List.mem_of_getElem? (i := 26) rfl)) (i := 3) rfl 1 rfl rfl (own_db hby d_prog_64_method_11_1) ?_
  intro T1 A2
  show own_go _ _ _ _ _ _ _ (T1.setTop (mkF m 4 #[.val (.ref (n0 + 3)), .val (.int vx), .val (.int ix)] [(.ref (n0 + 4))]))
  refine own_by (u' := T1.setTop (mkF m 5 #[.val (.ref (n0 + 3)), .val (.int vx), .val (.int ix)] [(.int ix), (.ref (n0 + 4))])) (fun _ k => XS.iloadN A2.here hx rfl (own_db hby d_prog_64_method_11_4) rfl k) ?_
  refine own_by (u' := T1.setTop (mkF m 6 #[.val (.ref (n0 + 3)), .val (.int vx), .val (.int ix)] [(.int vx), (.int ix), (.ref (n0 + 4))])) (fun _ k => XS.iloadN A2.here hx rfl (own_db hby d_prog_64_method_11_5) rfl k) ?_
  refine own_iastore A2 hx hZ (i := 4) rfl (ix.toNatClampNeg) (own_ix3 hH hi) (own_db hby d_prog_64_method_11_6) (its2 := [(own_obj Z "com/example/strandwise/strandwise/network/SearchState" ns_SearchState [(.ref (n0 + 1)), (.ref (n0 + 2)), (.ref (n0 + 3)), (.ref (n0 + 6)), (.int rc)]), (own_la Z D), (own_ia Z .byte S), (own_obj Z "com/example/strandwise/strandwise/network/VertexHeap" ns_VertexHeap [(.ref (n0 + 1)), (.ref (n0 + 4)), (.ref (n0 + 5)), (.int sz)]), (own_ia Z .int (H.set ix.toNatClampNeg vx)), (own_ia Z .int Q), (own_ia Z .int R)]) rfl ?_
  intro T3 A4
  show own_go _ _ _ _ _ _ _ (T3.setTop (mkF m 7 #[.val (.ref (n0 + 3)), .val (.int vx), .val (.int ix)] []))
  refine own_by (u' := T3.setTop (mkF m 8 #[.val (.ref (n0 + 3)), .val (.int vx), .val (.int ix)] [(.ref (n0 + 3))])) (fun _ k => XS.aloadN A4.here hx rfl (own_db hby d_prog_64_method_11_7) rfl rfl k) ?_
  refine own_getF A4 hx hZ hown (hw _ (List.mem_of_getElem? (i := 28) rfl)) (i := 3) rfl 2 rfl rfl (own_db hby d_prog_64_method_11_8) ?_
  intro T5 A6
  show own_go _ _ _ _ _ _ _ (T5.setTop (mkF m 11 #[.val (.ref (n0 + 3)), .val (.int vx), .val (.int ix)] [(.ref (n0 + 5))]))
  refine own_by (u' := T5.setTop (mkF m 12 #[.val (.ref (n0 + 3)), .val (.int vx), .val (.int ix)] [(.int vx), (.ref (n0 + 5))])) (fun _ k => XS.iloadN A6.here hx rfl (own_db hby d_prog_64_method_11_11) rfl k) ?_
  refine own_by (u' := T5.setTop (mkF m 13 #[.val (.ref (n0 + 3)), .val (.int vx), .val (.int ix)] [(.int ix), (.int vx), (.ref (n0 + 5))])) (fun _ k => XS.iloadN A6.here hx rfl (own_db hby d_prog_64_method_11_12) rfl k) ?_
  refine own_iastore A6 hx hZ (i := 5) rfl (vx.toNatClampNeg) (own_ix3 hQ hv) (own_db hby d_prog_64_method_11_13) (its2 := [(own_obj Z "com/example/strandwise/strandwise/network/SearchState" ns_SearchState [(.ref (n0 + 1)), (.ref (n0 + 2)), (.ref (n0 + 3)), (.ref (n0 + 6)), (.int rc)]), (own_la Z D), (own_ia Z .byte S), (own_obj Z "com/example/strandwise/strandwise/network/VertexHeap" ns_VertexHeap [(.ref (n0 + 1)), (.ref (n0 + 4)), (.ref (n0 + 5)), (.int sz)]), (own_ia Z .int (H.set ix.toNatClampNeg vx)), (own_ia Z .int (Q.set vx.toNatClampNeg ix)), (own_ia Z .int R)]) rfl ?_
  intro T7 A8
  show own_go _ _ _ _ _ _ _ (T7.setTop (mkF m 14 #[.val (.ref (n0 + 3)), .val (.int vx), .val (.int ix)] []))
  exact own_retV A8 hx hlk hret (own_db hby d_prog_64_method_11_14) (by decide) (by decide) ⟨rfl, rfl⟩
theorem d_prog_64_method_9_0 : decode prog_64_method_9_code 0 = .ok (.aload_n 0, 1) := by decide +kernel
theorem d_prog_64_method_9_1 : decode prog_64_method_9_code 1 = .ok (.getfield 13, 3) := by decide +kernel
theorem d_prog_64_method_9_4 : decode prog_64_method_9_code 4 = .ok (.iload_n 1, 1) := by decide +kernel
theorem d_prog_64_method_9_5 : decode prog_64_method_9_code 5 = .ok (.iaload, 1) := by decide +kernel
theorem d_prog_64_method_9_6 : decode prog_64_method_9_code 6 = .ok (.istore_n 2, 1) := by decide +kernel
theorem d_prog_64_method_9_7 : decode prog_64_method_9_code 7 = .ok (.iload_n 1, 1) := by decide +kernel
theorem d_prog_64_method_9_8 : decode prog_64_method_9_code 8 = .ok (.ifCond .le 42, 3) := by decide +kernel
theorem d_prog_64_method_9_50 : decode prog_64_method_9_code 50 = .ok (.aload_n 0, 1) := by decide +kernel
theorem d_prog_64_method_9_51 : decode prog_64_method_9_code 51 = .ok (.iload_n 2, 1) := by decide +kernel
theorem d_prog_64_method_9_52 : decode prog_64_method_9_code 52 = .ok (.iload_n 1, 1) := by decide +kernel
theorem d_prog_64_method_9_53 : decode prog_64_method_9_code 53 = .ok (.invokevirtual 35, 3) := by decide +kernel
theorem pd__II_V : parseMethodDescriptor "(II)V" = some ⟨[.int, .int], none⟩ := by decide +kernel
theorem d_prog_64_method_9_56 : decode prog_64_method_9_code 56 = .ok (.return_, 1) := by decide +kernel
theorem d_prog_64_method_9_11 : decode prog_64_method_9_code 11 = .ok (.iload_n 1, 1) := by decide +kernel
theorem d_prog_64_method_9_12 : decode prog_64_method_9_code 12 = .ok (.iconst 1, 1) := by decide +kernel
theorem d_prog_64_method_9_13 : decode prog_64_method_9_code 13 = .ok (.isub, 1) := by decide +kernel
theorem d_prog_64_method_9_14 : decode prog_64_method_9_code 14 = .ok (.iconst 2, 1) := by decide +kernel
theorem d_prog_64_method_9_15 : decode prog_64_method_9_code 15 = .ok (.idiv, 1) := by decide +kernel
theorem d_prog_64_method_9_16 : decode prog_64_method_9_code 16 = .ok (.istore_n 3, 1) := by decide +kernel
theorem d_prog_64_method_9_17 : decode prog_64_method_9_code 17 = .ok (.aload_n 0, 1) := by decide +kernel
theorem d_prog_64_method_9_18 : decode prog_64_method_9_code 18 = .ok (.iload_n 2, 1) := by decide +kernel
theorem d_prog_64_method_9_19 : decode prog_64_method_9_code 19 = .ok (.aload_n 0, 1) := by decide +kernel
theorem d_prog_64_method_9_20 : decode prog_64_method_9_code 20 = .ok (.getfield 13, 3) := by decide +kernel
theorem d_prog_64_method_9_23 : decode prog_64_method_9_code 23 = .ok (.iload_n 3, 1) := by decide +kernel
theorem d_prog_64_method_9_24 : decode prog_64_method_9_code 24 = .ok (.iaload, 1) := by decide +kernel
theorem d_prog_64_method_9_25 : decode prog_64_method_9_code 25 = .ok (.invokevirtual 31, 3) := by decide +kernel
theorem pd__II_Z : parseMethodDescriptor "(II)Z" = some ⟨[.int, .int], some .boolean⟩ := by decide +kernel
theorem d_prog_64_method_9_28 : decode prog_64_method_9_code 28 = .ok (.ifCond .ne 6, 3) := by decide +kernel
theorem d_prog_64_method_9_31 : decode prog_64_method_9_code 31 = .ok (.goto 19, 3) := by decide +kernel
theorem d_prog_64_method_9_34 : decode prog_64_method_9_code 34 = .ok (.aload_n 0, 1) := by decide +kernel
theorem d_prog_64_method_9_35 : decode prog_64_method_9_code 35 = .ok (.aload_n 0, 1) := by decide +kernel
theorem d_prog_64_method_9_36 : decode prog_64_method_9_code 36 = .ok (.getfield 13, 3) := by decide +kernel
theorem d_prog_64_method_9_39 : decode prog_64_method_9_code 39 = .ok (.iload_n 3, 1) := by decide +kernel
theorem d_prog_64_method_9_40 : decode prog_64_method_9_code 40 = .ok (.iaload, 1) := by decide +kernel
theorem d_prog_64_method_9_41 : decode prog_64_method_9_code 41 = .ok (.iload_n 1, 1) := by decide +kernel
theorem d_prog_64_method_9_42 : decode prog_64_method_9_code 42 = .ok (.invokevirtual 35, 3) := by decide +kernel
theorem d_prog_64_method_9_45 : decode prog_64_method_9_code 45 = .ok (.iload_n 3, 1) := by decide +kernel
theorem d_prog_64_method_9_46 : decode prog_64_method_9_code 46 = .ok (.istore_n 1, 1) := by decide +kernel
theorem d_prog_64_method_9_47 : decode prog_64_method_9_code 47 = .ok (.goto (-40), 3) := by decide +kernel
theorem pf_gUp : plainFor (⟨"com/example/strandwise/strandwise/network/VertexHeap", "siftUp", "(I)V"⟩ : MethodName) = true := by first | exact plainFor_of_name (by first | (simp [plainName, overriddenIn]; done) | decide +kernel) | decide +kernel
theorem ef_gUp (m : MethodId) (n0 : Nat) (ix : Int32) : entryFrame m #[(.ref (n0 + 3)), (.int ix)] 4 = (mkF m 0 #[.val (.ref (n0 + 3)), .val (.int ix), .unset, .unset] []) := by first | (simp [entryFrame, mkF, argsToLocals, Value.category]; done) | rfl
set_option maxRecDepth 65536 in
set_option maxHeartbeats 40000000 in
theorem gUp (l : Launch) (Z : State) (a0 : Array Value) (hw : ∀ d ∈ tables_1, d.before a0 Z = true) (n0 : Nat) (D : List Int64) (S : List Int32) (H : List Int32) (Q : List Int32) (R : List Int32) (rc : Int32) (sz : Int32) (ix : Int32) (Pr : Int32 → Prop) (n : Int) (hD : D.length = 3) (ok : own_ok Pr n H Q) (hxx : own_vt ix) (hpv : Pr (own_g H ix)) :
    own_met l Z n0 (⟨"com/example/strandwise/strandwise/network/VertexHeap", "siftUp", "(I)V"⟩ : MethodName) prog_64_method_9_code 4 none ({ frames := 1, cells := 0, slots := 0, locals := 14 } : Room) #[(.ref (n0 + 3)), (.int ix)] [(own_obj Z "com/example/strandwise/strandwise/network/SearchState" ns_SearchState [(.ref (n0 + 1)), (.ref (n0 + 2)), (.ref (n0 + 3)), (.ref (n0 + 6)), (.int rc)]), (own_la Z D), (own_ia Z .byte S), (own_obj Z "com/example/strandwise/strandwise/network/VertexHeap" ns_VertexHeap [(.ref (n0 + 1)), (.ref (n0 + 4)), (.ref (n0 + 5)), (.int sz)]), (own_ia Z .int H), (own_ia Z .int Q), (own_ia Z .int R)] (fun v its' => v = none ∧ ∃ H' Q', own_ok Pr n H' Q' ∧ its' = [(own_obj Z "com/example/strandwise/strandwise/network/SearchState" ns_SearchState [(.ref (n0 + 1)), (.ref (n0 + 2)), (.ref (n0 + 3)), (.ref (n0 + 6)), (.int rc)]), (own_la Z D), (own_ia Z .byte S), (own_obj Z "com/example/strandwise/strandwise/network/VertexHeap" ns_VertexHeap [(.ref (n0 + 1)), (.ref (n0 + 4)), (.ref (n0 + 5)), (.int sz)]), (own_ia Z .int H'), (own_ia Z .int Q'), (own_ia Z .int R)]) := by
  refine own_met.of pf_gUp ?_
  intro p e s m below meth c T0 hx hby hml hret hlk hZ hown hnm A0
  replace hown : s.vm.findClass "com/example/strandwise/strandwise/network/VertexHeap" = some m.cls := hown
  replace hml : c.maxLocals = 4 := hml
  rw [ef_gUp m n0 ix]
  show own_go _ _ _ _ _ _ _ (T0.setTop (mkF m 0 #[.val (.ref (n0 + 3)), .val (.int ix), .unset, .unset] []))
  refine own_by (u' := T0.setTop (mkF m 1 #[.val (.ref (n0 + 3)), .val (.int ix), .unset, .unset] [(.ref (n0 + 3))])) (fun _ k => XS.aloadN A0.here hx rfl (own_db hby d_prog_64_method_9_0) rfl rfl k) ?_
  refine own_getF A0 hx hZ hown (hw _ (List.mem_of_getElem? (i := 26) rfl)) (i := 3) rfl 1 rfl rfl (own_db hby d_prog_64_method_9_1) ?_
  intro T1 A2
  show own_go _ _ _ _ _ _ _ (T1.setTop (mkF m 4 #[.val (.ref (n0 + 3)), .val (.int ix), .unset, .unset] [(.ref (n0 + 4))]))
  refine own_by (u' := T1.setTop (mkF m 5 #[.val (.ref (n0 + 3)), .val (.int ix), .unset, .unset] [(.int ix), (.ref (n0 + 4))])) (fun _ k => XS.iloadN A2.here hx rfl (own_db hby d_prog_64_method_9_4) rfl k) ?_
  refine own_iaload A2 hx hZ (i := 4) rfl (x := (own_g H ix)) (own_rd ok.1 hxx.1 hxx.2) (own_db hby d_prog_64_method_9_5) ?_
  show own_go _ _ _ _ _ _ _ (T1.setTop (mkF m 6 #[.val (.ref (n0 + 3)), .val (.int ix), .unset, .unset] [(.int (own_g H ix))]))
  refine own_by (u' := T1.setTop (mkF m 7 #[.val (.ref (n0 + 3)), .val (.int ix), .val (.int (own_g H ix)), .unset] [])) (fun _ k => XS.istoreN A2.here hx rfl (own_db hby d_prog_64_method_9_6) rfl (l' := #[.val (.ref (n0 + 3)), .val (.int ix), .val (.int (own_g H ix)), .unset]) rfl k) ?_
  have lp3 : ∀ (k : Nat) (T4 : State) (ii : Int32) (s3 : Slot) (H1 : List Int32) (Q1 : List Int32), own_at p l e ({ frames := 1, cells := 0, slots := 0, locals := 14 } : Room) s m #[(.ref (n0 + 3)), (.int ix)] below meth c n0 T4 0 0 [(own_obj Z "com/example/strandwise/strandwise/network/SearchState" ns_SearchState [(.ref (n0 + 1)), (.ref (n0 + 2)), (.ref (n0 + 3)), (.ref (n0 + 6)), (.int rc)]), (own_la Z D), (own_ia Z .byte S), (own_obj Z "com/example/strandwise/strandwise/network/VertexHeap" ns_VertexHeap [(.ref (n0 + 1)), (.ref (n0 + 4)), (.ref (n0 + 5)), (.int sz)]), (own_ia Z .int H1), (own_ia Z .int Q1), (own_ia Z .int R)] → (s3 = Slot.unset ∨ ∃ w, s3 = Slot.val w ∧ w.category = 1) → (ii.toInt ≤ ((k : Nat) : Int)) → (own_vt ii) → (own_ok Pr n H1 Q1) → own_go p e ({ frames := 1, cells := 0, slots := 0, locals := 14 } : Room) s below n0 (fun v its' => v = none ∧ ∃ H' Q', own_ok Pr n H' Q' ∧ its' = [(own_obj Z "com/example/strandwise/strandwise/network/SearchState" ns_SearchState [(.ref (n0 + 1)), (.ref (n0 + 2)), (.ref (n0 + 3)), (.ref (n0 + 6)), (.int rc)]), (own_la Z D), (own_ia Z .byte S), (own_obj Z "com/example/strandwise/strandwise/network/VertexHeap" ns_VertexHeap [(.ref (n0 + 1)), (.ref (n0 + 4)), (.ref (n0 + 5)), (.int sz)]), (own_ia Z .int H'), (own_ia Z .int Q'), (own_ia Z .int R)]) (T4.setTop (mkF m 7 #[.val (.ref (n0 + 3)), .val (.int ii), .val (.int (own_g H ix)), s3] [])) := by
    intro k
    induction k with
    | zero =>
      intro T4 ii s3 H1 Q1 A5 h_s3 hk hi ok1
      refine own_by (u' := T4.setTop (mkF m 8 #[.val (.ref (n0 + 3)), .val (.int ii), .val (.int (own_g H ix)), s3] [(.int ii)])) (fun _ k => XS.iloadN A5.here hx rfl (own_db hby d_prog_64_method_9_7) rfl k) ?_
      refine own_by (u' := T4.setTop (mkF m 50 #[.val (.ref (n0 + 3)), .val (.int ii), .val (.int (own_g H ix)), s3] [])) (fun _ k => XS.ifYes A5.here hx rfl (pc0 := 8) (pc' := 50) rfl (own_db hby d_prog_64_method_9_8) rfl ((if0 _ _).trans (flt (own_z0 hk)).2.2.2) (by decide) (by decide) k) ?_
      refine own_by (u' := T4.setTop (mkF m 51 #[.val (.ref (n0 + 3)), .val (.int ii), .val (.int (own_g H ix)), s3] [(.ref (n0 + 3))])) (fun _ k => XS.aloadN A5.here hx rfl (own_db hby d_prog_64_method_9_50) rfl rfl k) ?_
      refine own_by (u' := T4.setTop (mkF m 52 #[.val (.ref (n0 + 3)), .val (.int ii), .val (.int (own_g H ix)), s3] [(.int (own_g H ix)), (.ref (n0 + 3))])) (fun _ k => XS.iloadN A5.here hx rfl (own_db hby d_prog_64_method_9_51) rfl k) ?_
      refine own_by (u' := T4.setTop (mkF m 53 #[.val (.ref (n0 + 3)), .val (.int ii), .val (.int (own_g H ix)), s3] [(.int ii), (.int (own_g H ix)), (.ref (n0 + 3))])) (fun _ k => XS.iloadN A5.here hx rfl (own_db hby d_prog_64_method_9_52) rfl k) ?_
      refine own_callP (y := (⟨"com/example/strandwise/strandwise/network/VertexHeap", "place", "(II)V"⟩ : MethodName)) (rest := []) A5 hx hZ hown (hw _ (List.mem_of_getElem? (i := 57) rfl)) (hw _ (List.mem_of_getElem? (i := 59) rfl)) (hw _ (List.mem_of_getElem? (i := 17) rfl)) (hw _ (List.mem_of_getElem? (i := 58) rfl)) (hw _ (List.mem_of_getElem? (i := 18) rfl)) (hw _ (List.mem_of_getElem? (i := 60) rfl)) (by decide) (i := 3) rfl (gL l Z a0 hw n0 D S H1 Q1 R rc sz (own_g H ix) ii ok1.1 ok1.2.1 (own_okv ok hxx) hi) (by rw [hml]; rfl) [(.int (own_g H ix)), (.int ii)] rfl rfl pd__II_V rfl (W := 0) (by show 2 * 0 + _ ≤ _; exact Nat.le_of_eq rfl) (own_db hby d_prog_64_method_9_53) (by decide) (by decide) (by decide) (by decide) ?_
      intro v7 i8 T10 hq9 A11
      obtain ⟨rfl, he12⟩ := hq9
      rw [he12] at A11
      replace A11 : own_at p l e _ s m _ below meth c n0 T10 0 0 [(own_obj Z "com/example/strandwise/strandwise/network/SearchState" ns_SearchState [(.ref (n0 + 1)), (.ref (n0 + 2)), (.ref (n0 + 3)), (.ref (n0 + 6)), (.int rc)]), (own_la Z D), (own_ia Z .byte S), (own_obj Z "com/example/strandwise/strandwise/network/VertexHeap" ns_VertexHeap [(.ref (n0 + 1)), (.ref (n0 + 4)), (.ref (n0 + 5)), (.int sz)]), (own_ia Z .int (H1.set ii.toNatClampNeg (own_g H ix))), (own_ia Z .int (Q1.set (own_g H ix).toNatClampNeg ii)), (own_ia Z .int R)] := A11
      show own_go _ _ _ _ _ _ _ (T10.setTop (mkF m 56 #[.val (.ref (n0 + 3)), .val (.int ii), .val (.int (own_g H ix)), s3] []))
      exact own_retV A11 hx hlk hret (own_db hby d_prog_64_method_9_56) (by decide) (by decide) ⟨rfl, _, _, own_okP ok1 (own_okv ok hxx) hi (fun _ => hpv), rfl⟩
    | succ k ih6 =>
      intro T4 ii s3 H1 Q1 A5 h_s3 hk hi ok1
      refine own_by (u' := T4.setTop (mkF m 8 #[.val (.ref (n0 + 3)), .val (.int ii), .val (.int (own_g H ix)), s3] [(.int ii)])) (fun _ k => XS.iloadN A5.here hx rfl (own_db hby d_prog_64_method_9_7) rfl k) ?_
      by_cases hc13 : (0 : Int32) < ii
      · refine own_by (u' := T4.setTop (mkF m 11 #[.val (.ref (n0 + 3)), .val (.int ii), .val (.int (own_g H ix)), s3] [])) (fun _ k => XS.ifNo A5.here hx rfl (own_db hby d_prog_64_method_9_8) rfl ((if0 _ _).trans (tlt hc13).2.2.2) k) ?_
        refine own_by (u' := T4.setTop (mkF m 12 #[.val (.ref (n0 + 3)), .val (.int ii), .val (.int (own_g H ix)), s3] [(.int ii)])) (fun _ k => XS.iloadN A5.here hx rfl (own_db hby d_prog_64_method_9_11) rfl k) ?_
        refine own_by (u' := T4.setTop (mkF m 13 #[.val (.ref (n0 + 3)), .val (.int ii), .val (.int (own_g H ix)), s3] [(.int (1 : Int32)), (.int ii)])) (fun _ k => XS.iconst A5.here hx rfl (own_db hby d_prog_64_method_9_12) k) ?_
        refine own_by (u' := T4.setTop (mkF m 14 #[.val (.ref (n0 + 3)), .val (.int ii), .val (.int (own_g H ix)), s3] [(.int (ii - (1 : Int32)))])) (fun _ k => XS.isub A5.here hx rfl (own_db hby d_prog_64_method_9_13) rfl k) ?_
        refine own_by (u' := T4.setTop (mkF m 15 #[.val (.ref (n0 + 3)), .val (.int ii), .val (.int (own_g H ix)), s3] [(.int (2 : Int32)), (.int (ii - (1 : Int32)))])) (fun _ k => XS.iconst A5.here hx rfl (own_db hby d_prog_64_method_9_14) k) ?_
        refine own_by (u' := T4.setTop (mkF m 16 #[.val (.ref (n0 + 3)), .val (.int ii), .val (.int (own_g H ix)), s3] [(.int ((ii - (1 : Int32)) / (2 : Int32)))])) (fun _ k => XS.idiv A5.here hx rfl (own_db hby d_prog_64_method_9_15) rfl (by decide) k) ?_
        refine own_by (u' := T4.setTop (mkF m 17 #[.val (.ref (n0 + 3)), .val (.int ii), .val (.int (own_g H ix)), .val (.int ((ii - (1 : Int32)) / (2 : Int32)))] [])) (fun _ k => XS.istoreNS A5.here hx rfl (own_db hby d_prog_64_method_9_16) rfl (o := s3) rfl h_s3 k) ?_
        refine own_by (u' := T4.setTop (mkF m 18 #[.val (.ref (n0 + 3)), .val (.int ii), .val (.int (own_g H ix)), .val (.int ((ii - (1 : Int32)) / (2 : Int32)))] [(.ref (n0 + 3))])) (fun _ k => XS.aloadN A5.here hx rfl (own_db hby d_prog_64_method_9_17) rfl rfl k) ?_
        refine own_by (u' := T4.setTop (mkF m 19 #[.val (.ref (n0 + 3)), .val (.int ii), .val (.int (own_g H ix)), .val (.int ((ii - (1 : Int32)) / (2 : Int32)))] [(.int (own_g H ix)), (.ref (n0 + 3))])) (fun _ k => XS.iloadN A5.here hx rfl (own_db hby d_prog_64_method_9_18) rfl k) ?_
        refine own_by (u' := T4.setTop (mkF m 20 #[.val (.ref (n0 + 3)), .val (.int ii), .val (.int (own_g H ix)), .val (.int ((ii - (1 : Int32)) / (2 : Int32)))] [(.ref (n0 + 3)), (.int (own_g H ix)), (.ref (n0 + 3))])) (fun _ k => XS.aloadN A5.here hx rfl (own_db hby d_prog_64_method_9_19) rfl rfl k) ?_
        refine own_getF A5 hx hZ hown (hw _ (List.mem_of_getElem? (i := 26) rfl)) (i := 3) rfl 1 rfl rfl (own_db hby d_prog_64_method_9_20) ?_
        intro T14 A15
        show own_go _ _ _ _ _ _ _ (T14.setTop (mkF m 23 #[.val (.ref (n0 + 3)), .val (.int ii), .val (.int (own_g H ix)), .val (.int ((ii - (1 : Int32)) / (2 : Int32)))] [(.ref (n0 + 4)), (.int (own_g H ix)), (.ref (n0 + 3))]))
        refine own_by (u' := T14.setTop (mkF m 24 #[.val (.ref (n0 + 3)), .val (.int ii), .val (.int (own_g H ix)), .val (.int ((ii - (1 : Int32)) / (2 : Int32)))] [(.int ((ii - (1 : Int32)) / (2 : Int32))), (.ref (n0 + 4)), (.int (own_g H ix)), (.ref (n0 + 3))])) (fun _ k => XS.iloadN A15.here hx rfl (own_db hby d_prog_64_method_9_23) rfl k) ?_
        refine own_iaload A15 hx hZ (i := 4) rfl (x := (own_g H1 ((ii - (1 : Int32)) / (2 : Int32)))) (own_rd ok1.1 (own_parv hi hc13).1.1 (own_parv hi hc13).1.2) (own_db hby d_prog_64_method_9_24) ?_
        show own_go _ _ _ _ _ _ _ (T14.setTop (mkF m 25 #[.val (.ref (n0 + 3)), .val (.int ii), .val (.int (own_g H ix)), .val (.int ((ii - (1 : Int32)) / (2 : Int32)))] [(.int (own_g H1 ((ii - (1 : Int32)) / (2 : Int32)))), (.int (own_g H ix)), (.ref (n0 + 3))]))
        refine own_callP (y := (⟨"com/example/strandwise/strandwise/network/VertexHeap", "precedes", "(II)Z"⟩ : MethodName)) (rest := []) A15 hx hZ hown (hw _ (List.mem_of_getElem? (i := 61) rfl)) (hw _ (List.mem_of_getElem? (i := 63) rfl)) (hw _ (List.mem_of_getElem? (i := 17) rfl)) (hw _ (List.mem_of_getElem? (i := 62) rfl)) (hw _ (List.mem_of_getElem? (i := 18) rfl)) (hw _ (List.mem_of_getElem? (i := 64) rfl)) (by decide) (i := 3) rfl (gP l Z a0 hw n0 D S H1 Q1 R rc sz (own_g H ix) (own_g H1 ((ii - (1 : Int32)) / (2 : Int32))) hD (own_okv ok hxx) (own_okv ok1 (own_parv hi hc13).1)) (by rw [hml]; rfl) [(.int (own_g H ix)), (.int (own_g H1 ((ii - (1 : Int32)) / (2 : Int32))))] rfl rfl pd__II_Z rfl (W := 0) (by show 2 * 0 + _ ≤ _; exact Nat.le_of_eq rfl) (own_db hby d_prog_64_method_9_25) (by decide) (by decide) (by decide) (by decide) ?_
        intro v16 i17 T19 hq18 A20
        obtain ⟨rfl, he21⟩ := hq18
        rw [he21] at A20
        replace A20 : own_at p l e _ s m _ below meth c n0 T19 0 0 [(own_obj Z "com/example/strandwise/strandwise/network/SearchState" ns_SearchState [(.ref (n0 + 1)), (.ref (n0 + 2)), (.ref (n0 + 3)), (.ref (n0 + 6)), (.int rc)]), (own_la Z D), (own_ia Z .byte S), (own_obj Z "com/example/strandwise/strandwise/network/VertexHeap" ns_VertexHeap [(.ref (n0 + 1)), (.ref (n0 + 4)), (.ref (n0 + 5)), (.int sz)]), (own_ia Z .int H1), (own_ia Z .int Q1), (own_ia Z .int R)] := A20
        show own_go _ _ _ _ _ _ _ (T19.setTop (mkF m 28 #[.val (.ref (n0 + 3)), .val (.int ii), .val (.int (own_g H ix)), .val (.int ((ii - (1 : Int32)) / (2 : Int32)))] [(.int (fP D (own_g H ix) (own_g H1 ((ii - (1 : Int32)) / (2 : Int32)))))]))
        by_cases hc22 : (fP D (own_g H ix) (own_g H1 ((ii - (1 : Int32)) / (2 : Int32)))) = (0 : Int32)
        · refine own_by (u' := T19.setTop (mkF m 31 #[.val (.ref (n0 + 3)), .val (.int ii), .val (.int (own_g H ix)), .val (.int ((ii - (1 : Int32)) / (2 : Int32)))] [])) (fun _ k => XS.ifNo A20.here hx rfl (own_db hby d_prog_64_method_9_28) rfl ((if0 _ _).trans (teq hc22).2) k) ?_
          refine own_by (u' := T19.setTop (mkF m 50 #[.val (.ref (n0 + 3)), .val (.int ii), .val (.int (own_g H ix)), .val (.int ((ii - (1 : Int32)) / (2 : Int32)))] [])) (fun _ k => XS.goto A20.here hx rfl (pc0 := 31) (pc' := 50) rfl (own_db hby d_prog_64_method_9_31) (by decide) (by decide) k) ?_
          refine own_by (u' := T19.setTop (mkF m 51 #[.val (.ref (n0 + 3)), .val (.int ii), .val (.int (own_g H ix)), .val (.int ((ii - (1 : Int32)) / (2 : Int32)))] [(.ref (n0 + 3))])) (fun _ k => XS.aloadN A20.here hx rfl (own_db hby d_prog_64_method_9_50) rfl rfl k) ?_
          refine own_by (u' := T19.setTop (mkF m 52 #[.val (.ref (n0 + 3)), .val (.int ii), .val (.int (own_g H ix)), .val (.int ((ii - (1 : Int32)) / (2 : Int32)))] [(.int (own_g H ix)), (.ref (n0 + 3))])) (fun _ k => XS.iloadN A20.here hx rfl (own_db hby d_prog_64_method_9_51) rfl k) ?_
          refine own_by (u' := T19.setTop (mkF m 53 #[.val (.ref (n0 + 3)), .val (.int ii), .val (.int (own_g H ix)), .val (.int ((ii - (1 : Int32)) / (2 : Int32)))] [(.int ii), (.int (own_g H ix)), (.ref (n0 + 3))])) (fun _ k => XS.iloadN A20.here hx rfl (own_db hby d_prog_64_method_9_52) rfl k) ?_
          refine own_callP (y := (⟨"com/example/strandwise/strandwise/network/VertexHeap", "place", "(II)V"⟩ : MethodName)) (rest := []) A20 hx hZ hown (hw _ (List.mem_of_getElem? (i := 57) rfl)) (hw _ (List.mem_of_getElem? (i := 59) rfl)) (hw _ (List.mem_of_getElem? (i := 17) rfl)) (hw _ (List.mem_of_getElem? (i := 58) rfl)) (hw _ (List.mem_of_getElem? (i := 18) rfl)) (hw _ (List.mem_of_getElem? (i := 60) rfl)) (by decide) (i := 3) rfl (gL l Z a0 hw n0 D S H1 Q1 R rc sz (own_g H ix) ii ok1.1 ok1.2.1 (own_okv ok hxx) hi) (by rw [hml]; rfl) [(.int (own_g H ix)), (.int ii)] rfl rfl pd__II_V rfl (W := 0) (by show 2 * 0 + _ ≤ _; exact Nat.le_of_eq rfl) (own_db hby d_prog_64_method_9_53) (by decide) (by decide) (by decide) (by decide) ?_
          intro v23 i24 T26 hq25 A27
          obtain ⟨rfl, he28⟩ := hq25
          rw [he28] at A27
          replace A27 : own_at p l e _ s m _ below meth c n0 T26 0 0 [(own_obj Z "com/example/strandwise/strandwise/network/SearchState" ns_SearchState [(.ref (n0 + 1)), (.ref (n0 + 2)), (.ref (n0 + 3)), (.ref (n0 + 6)), (.int rc)]), (own_la Z D), (own_ia Z .byte S), (own_obj Z "com/example/strandwise/strandwise/network/VertexHeap" ns_VertexHeap [(.ref (n0 + 1)), (.ref (n0 + 4)), (.ref (n0 + 5)), (.int sz)]), (own_ia Z .int (H1.set ii.toNatClampNeg (own_g H ix))), (own_ia Z .int (Q1.set (own_g H ix).toNatClampNeg ii)), (own_ia Z .int R)] := A27
          show own_go _ _ _ _ _ _ _ (T26.setTop (mkF m 56 #[.val (.ref (n0 + 3)), .val (.int ii), .val (.int (own_g H ix)), .val (.int ((ii - (1 : Int32)) / (2 : Int32)))] []))
          exact own_retV A27 hx hlk hret (own_db hby d_prog_64_method_9_56) (by decide) (by decide) ⟨rfl, _, _, own_okP ok1 (own_okv ok hxx) hi (fun _ => hpv), rfl⟩
        · refine own_by (u' := T19.setTop (mkF m 34 #[.val (.ref (n0 + 3)), .val (.int ii), .val (.int (own_g H ix)), .val (.int ((ii - (1 : Int32)) / (2 : Int32)))] [])) (fun _ k => XS.ifYes A20.here hx rfl (pc0 := 28) (pc' := 34) rfl (own_db hby d_prog_64_method_9_28) rfl ((if0 _ _).trans (feq hc22).2) (by decide) (by decide) k) ?_
          refine own_by (u' := T19.setTop (mkF m 35 #[.val (.ref (n0 + 3)), .val (.int ii), .val (.int (own_g H ix)), .val (.int ((ii - (1 : Int32)) / (2 : Int32)))] [(.ref (n0 + 3))])) (fun _ k => XS.aloadN A20.here hx rfl (own_db hby d_prog_64_method_9_34) rfl rfl k) ?_
          refine own_by (u' := T19.setTop (mkF m 36 #[.val (.ref (n0 + 3)), .val (.int ii), .val (.int (own_g H ix)), .val (.int ((ii - (1 : Int32)) / (2 : Int32)))] [(.ref (n0 + 3)), (.ref (n0 + 3))])) (fun _ k => XS.aloadN A20.here hx rfl (own_db hby d_prog_64_method_9_35) rfl rfl k) ?_
          refine own_getF A20 hx hZ hown (hw _ (List.mem_of_getElem? (i := 26) rfl)) (i := 3) rfl 1 rfl rfl (own_db hby d_prog_64_method_9_36) ?_
          intro T29 A30
          show own_go _ _ _ _ _ _ _ (T29.setTop (mkF m 39 #[.val (.ref (n0 + 3)), .val (.int ii), .val (.int (own_g H ix)), .val (.int ((ii - (1 : Int32)) / (2 : Int32)))] [(.ref (n0 + 4)), (.ref (n0 + 3))]))
          refine own_by (u' := T29.setTop (mkF m 40 #[.val (.ref (n0 + 3)), .val (.int ii), .val (.int (own_g H ix)), .val (.int ((ii - (1 : Int32)) / (2 : Int32)))] [(.int ((ii - (1 : Int32)) / (2 : Int32))), (.ref (n0 + 4)), (.ref (n0 + 3))])) (fun _ k => XS.iloadN A30.here hx rfl (own_db hby d_prog_64_method_9_39) rfl k) ?_
          refine own_iaload A30 hx hZ (i := 4) rfl (x := (own_g H1 ((ii - (1 : Int32)) / (2 : Int32)))) (own_rd ok1.1 (own_parv hi hc13).1.1 (own_parv hi hc13).1.2) (own_db hby d_prog_64_method_9_40) ?_
          show own_go _ _ _ _ _ _ _ (T29.setTop (mkF m 41 #[.val (.ref (n0 + 3)), .val (.int ii), .val (.int (own_g H ix)), .val (.int ((ii - (1 : Int32)) / (2 : Int32)))] [(.int (own_g H1 ((ii - (1 : Int32)) / (2 : Int32)))), (.ref (n0 + 3))]))
          refine own_by (u' := T29.setTop (mkF m 42 #[.val (.ref (n0 + 3)), .val (.int ii), .val (.int (own_g H ix)), .val (.int ((ii - (1 : Int32)) / (2 : Int32)))] [(.int ii), (.int (own_g H1 ((ii - (1 : Int32)) / (2 : Int32)))), (.ref (n0 + 3))])) (fun _ k => XS.iloadN A30.here hx rfl (own_db hby d_prog_64_method_9_41) rfl k) ?_
          refine own_callP (y := (⟨"com/example/strandwise/strandwise/network/VertexHeap", "place", "(II)V"⟩ : MethodName)) (rest := []) A30 hx hZ hown (hw _ (List.mem_of_getElem? (i := 57) rfl)) (hw _ (List.mem_of_getElem? (i := 59) rfl)) (hw _ (List.mem_of_getElem? (i := 17) rfl)) (hw _ (List.mem_of_getElem? (i := 58) rfl)) (hw _ (List.mem_of_getElem? (i := 18) rfl)) (hw _ (List.mem_of_getElem? (i := 60) rfl)) (by decide) (i := 3) rfl (gL l Z a0 hw n0 D S H1 Q1 R rc sz (own_g H1 ((ii - (1 : Int32)) / (2 : Int32))) ii ok1.1 ok1.2.1 (own_okv ok1 (own_parv hi hc13).1) hi) (by rw [hml]; rfl) [(.int (own_g H1 ((ii - (1 : Int32)) / (2 : Int32)))), (.int ii)] rfl rfl pd__II_V rfl (W := 0) (by show 2 * 0 + _ ≤ _; exact Nat.le_of_eq rfl) (own_db hby d_prog_64_method_9_42) (by decide) (by decide) (by decide) (by decide) ?_
          intro v31 i32 T34 hq33 A35
          obtain ⟨rfl, he36⟩ := hq33
          rw [he36] at A35
          replace A35 : own_at p l e _ s m _ below meth c n0 T34 0 0 [(own_obj Z "com/example/strandwise/strandwise/network/SearchState" ns_SearchState [(.ref (n0 + 1)), (.ref (n0 + 2)), (.ref (n0 + 3)), (.ref (n0 + 6)), (.int rc)]), (own_la Z D), (own_ia Z .byte S), (own_obj Z "com/example/strandwise/strandwise/network/VertexHeap" ns_VertexHeap [(.ref (n0 + 1)), (.ref (n0 + 4)), (.ref (n0 + 5)), (.int sz)]), (own_ia Z .int (H1.set ii.toNatClampNeg (own_g H1 ((ii - (1 : Int32)) / (2 : Int32))))), (own_ia Z .int (Q1.set (own_g H1 ((ii - (1 : Int32)) / (2 : Int32))).toNatClampNeg ii)), (own_ia Z .int R)] := A35
          show own_go _ _ _ _ _ _ _ (T34.setTop (mkF m 45 #[.val (.ref (n0 + 3)), .val (.int ii), .val (.int (own_g H ix)), .val (.int ((ii - (1 : Int32)) / (2 : Int32)))] []))
          refine own_by (u' := T34.setTop (mkF m 46 #[.val (.ref (n0 + 3)), .val (.int ii), .val (.int (own_g H ix)), .val (.int ((ii - (1 : Int32)) / (2 : Int32)))] [(.int ((ii - (1 : Int32)) / (2 : Int32)))])) (fun _ k => XS.iloadN A35.here hx rfl (own_db hby d_prog_64_method_9_45) rfl k) ?_
          refine own_by (u' := T34.setTop (mkF m 47 #[.val (.ref (n0 + 3)), .val (.int ((ii - (1 : Int32)) / (2 : Int32))), .val (.int (own_g H ix)), .val (.int ((ii - (1 : Int32)) / (2 : Int32)))] [])) (fun _ k => XS.istoreN A35.here hx rfl (own_db hby d_prog_64_method_9_46) rfl (l' := #[.val (.ref (n0 + 3)), .val (.int ((ii - (1 : Int32)) / (2 : Int32))), .val (.int (own_g H ix)), .val (.int ((ii - (1 : Int32)) / (2 : Int32)))]) rfl k) ?_
          refine own_by (u' := T34.setTop (mkF m 7 #[.val (.ref (n0 + 3)), .val (.int ((ii - (1 : Int32)) / (2 : Int32))), .val (.int (own_g H ix)), .val (.int ((ii - (1 : Int32)) / (2 : Int32)))] [])) (fun _ k => XS.goto A35.here hx rfl (pc0 := 47) (pc' := 7) rfl (own_db hby d_prog_64_method_9_47) (by decide) (by decide) k) ?_
          exact ih6 _ ((ii - (1 : Int32)) / (2 : Int32)) (.val (.int ((ii - (1 : Int32)) / (2 : Int32)))) ((H1.set ii.toNatClampNeg (own_g H1 ((ii - (1 : Int32)) / (2 : Int32))))) ((Q1.set (own_g H1 ((ii - (1 : Int32)) / (2 : Int32))).toNatClampNeg ii)) A35 (Or.inr ⟨_, rfl, rfl⟩) (own_pk hi hc13 hk) (own_parv hi hc13).1 (own_okP ok1 (own_okv ok1 (own_parv hi hc13).1) hi (fun q => ok1.2.2.2.2 _ (own_parv hi hc13).1 (Int.lt_trans (own_parv hi hc13).2 q)))
      · refine own_by (u' := T4.setTop (mkF m 50 #[.val (.ref (n0 + 3)), .val (.int ii), .val (.int (own_g H ix)), s3] [])) (fun _ k => XS.ifYes A5.here hx rfl (pc0 := 8) (pc' := 50) rfl (own_db hby d_prog_64_method_9_8) rfl ((if0 _ _).trans (flt hc13).2.2.2) (by decide) (by decide) k) ?_
        refine own_by (u' := T4.setTop (mkF m 51 #[.val (.ref (n0 + 3)), .val (.int ii), .val (.int (own_g H ix)), s3] [(.ref (n0 + 3))])) (fun _ k => XS.aloadN A5.here hx rfl (own_db hby d_prog_64_method_9_50) rfl rfl k) ?_
        refine own_by (u' := T4.setTop (mkF m 52 #[.val (.ref (n0 + 3)), .val (.int ii), .val (.int (own_g H ix)), s3] [(.int (own_g H ix)), (.ref (n0 + 3))])) (fun _ k => XS.iloadN A5.here hx rfl (own_db hby d_prog_64_method_9_51) rfl k) ?_
        refine own_by (u' := T4.setTop (mkF m 53 #[.val (.ref (n0 + 3)), .val (.int ii), .val (.int (own_g H ix)), s3] [(.int ii), (.int (own_g H ix)), (.ref (n0 + 3))])) (fun _ k => XS.iloadN A5.here hx rfl (own_db hby d_prog_64_method_9_52) rfl k) ?_
        refine own_callP (y := (⟨"com/example/strandwise/strandwise/network/VertexHeap", "place", "(II)V"⟩ : MethodName)) (rest := []) A5 hx hZ hown (hw _ (List.mem_of_getElem? (i := 57) rfl)) (hw _ (List.mem_of_getElem? (i := 59) rfl)) (hw _ (List.mem_of_getElem? (i := 17) rfl)) (hw _ (List.mem_of_getElem? (i := 58) rfl)) (hw _ (List.mem_of_getElem? (i := 18) rfl)) (hw _ (List.mem_of_getElem? (i := 60) rfl)) (by decide) (i := 3) rfl (gL l Z a0 hw n0 D S H1 Q1 R rc sz (own_g H ix) ii ok1.1 ok1.2.1 (own_okv ok hxx) hi) (by rw [hml]; rfl) [(.int (own_g H ix)), (.int ii)] rfl rfl pd__II_V rfl (W := 0) (by show 2 * 0 + _ ≤ _; exact Nat.le_of_eq rfl) (own_db hby d_prog_64_method_9_53) (by decide) (by decide) (by decide) (by decide) ?_
        intro v37 i38 T40 hq39 A41
        obtain ⟨rfl, he42⟩ := hq39
        rw [he42] at A41
        replace A41 : own_at p l e _ s m _ below meth c n0 T40 0 0 [(own_obj Z "com/example/strandwise/strandwise/network/SearchState" ns_SearchState [(.ref (n0 + 1)), (.ref (n0 + 2)), (.ref (n0 + 3)), (.ref (n0 + 6)), (.int rc)]), (own_la Z D), (own_ia Z .byte S), (own_obj Z "com/example/strandwise/strandwise/network/VertexHeap" ns_VertexHeap [(.ref (n0 + 1)), (.ref (n0 + 4)), (.ref (n0 + 5)), (.int sz)]), (own_ia Z .int (H1.set ii.toNatClampNeg (own_g H ix))), (own_ia Z .int (Q1.set (own_g H ix).toNatClampNeg ii)), (own_ia Z .int R)] := A41
        show own_go _ _ _ _ _ _ _ (T40.setTop (mkF m 56 #[.val (.ref (n0 + 3)), .val (.int ii), .val (.int (own_g H ix)), s3] []))
        exact own_retV A41 hx hlk hret (own_db hby d_prog_64_method_9_56) (by decide) (by decide) ⟨rfl, _, _, own_okP ok1 (own_okv ok hxx) hi (fun _ => hpv), rfl⟩
  exact lp3 (3) _ ix (.unset) (H) (Q) A2 (Or.inl rfl) (by have := hxx.2; omega) hxx ok
theorem d_prog_64_method_10_0 : decode prog_64_method_10_code 0 = .ok (.aload_n 0, 1) := by decide +kernel
theorem d_prog_64_method_10_1 : decode prog_64_method_10_code 1 = .ok (.getfield 13, 3) := by decide +kernel
theorem d_prog_64_method_10_4 : decode prog_64_method_10_code 4 = .ok (.iload_n 1, 1) := by decide +kernel
theorem d_prog_64_method_10_5 : decode prog_64_method_10_code 5 = .ok (.iaload, 1) := by decide +kernel
theorem d_prog_64_method_10_6 : decode prog_64_method_10_code 6 = .ok (.istore_n 2, 1) := by decide +kernel
theorem d_prog_64_method_10_7 : decode prog_64_method_10_code 7 = .ok (.iconst 2, 1) := by decide +kernel
theorem d_prog_64_method_10_8 : decode prog_64_method_10_code 8 = .ok (.iload_n 1, 1) := by decide +kernel
theorem d_prog_64_method_10_9 : decode prog_64_method_10_code 9 = .ok (.imul, 1) := by decide +kernel
theorem d_prog_64_method_10_10 : decode prog_64_method_10_code 10 = .ok (.iconst 1, 1) := by decide +kernel
theorem d_prog_64_method_10_11 : decode prog_64_method_10_code 11 = .ok (.iadd, 1) := by decide +kernel
theorem d_prog_64_method_10_12 : decode prog_64_method_10_code 12 = .ok (.istore_n 3, 1) := by decide +kernel
theorem d_prog_64_method_10_13 : decode prog_64_method_10_code 13 = .ok (.iload_n 3, 1) := by decide +kernel
theorem d_prog_64_method_10_14 : decode prog_64_method_10_code 14 = .ok (.aload_n 0, 1) := by decide +kernel
theorem d_prog_64_method_10_15 : decode prog_64_method_10_code 15 = .ok (.getfield 20, 3) := by decide +kernel
theorem d_prog_64_method_10_18 : decode prog_64_method_10_code 18 = .ok (.if_icmp .lt 6, 3) := by decide +kernel
theorem d_prog_64_method_10_24 : decode prog_64_method_10_code 24 = .ok (.iload_n 3, 1) := by decide +kernel
theorem d_prog_64_method_10_25 : decode prog_64_method_10_code 25 = .ok (.iconst 1, 1) := by decide +kernel
theorem d_prog_64_method_10_26 : decode prog_64_method_10_code 26 = .ok (.iadd, 1) := by decide +kernel
theorem d_prog_64_method_10_27 : decode prog_64_method_10_code 27 = .ok (.aload_n 0, 1) := by decide +kernel
theorem d_prog_64_method_10_28 : decode prog_64_method_10_code 28 = .ok (.getfield 20, 3) := by decide +kernel
theorem d_prog_64_method_10_31 : decode prog_64_method_10_code 31 = .ok (.if_icmp .ge 27, 3) := by decide +kernel
theorem d_prog_64_method_10_58 : decode prog_64_method_10_code 58 = .ok (.aload_n 0, 1) := by decide +kernel
theorem d_prog_64_method_10_59 : decode prog_64_method_10_code 59 = .ok (.aload_n 0, 1) := by decide +kernel
theorem d_prog_64_method_10_60 : decode prog_64_method_10_code 60 = .ok (.getfield 13, 3) := by decide +kernel
theorem d_prog_64_method_10_63 : decode prog_64_method_10_code 63 = .ok (.iload_n 3, 1) := by decide +kernel
theorem d_prog_64_method_10_64 : decode prog_64_method_10_code 64 = .ok (.iaload, 1) := by decide +kernel
theorem d_prog_64_method_10_65 : decode prog_64_method_10_code 65 = .ok (.iload_n 2, 1) := by decide +kernel
theorem d_prog_64_method_10_66 : decode prog_64_method_10_code 66 = .ok (.invokevirtual 31, 3) := by decide +kernel
theorem d_prog_64_method_10_69 : decode prog_64_method_10_code 69 = .ok (.ifCond .ne 6, 3) := by decide +kernel
theorem d_prog_64_method_10_72 : decode prog_64_method_10_code 72 = .ok (.goto 19, 3) := by decide +kernel
theorem d_prog_64_method_10_91 : decode prog_64_method_10_code 91 = .ok (.aload_n 0, 1) := by decide +kernel
theorem d_prog_64_method_10_92 : decode prog_64_method_10_code 92 = .ok (.iload_n 2, 1) := by decide +kernel
theorem d_prog_64_method_10_93 : decode prog_64_method_10_code 93 = .ok (.iload_n 1, 1) := by decide +kernel
theorem d_prog_64_method_10_94 : decode prog_64_method_10_code 94 = .ok (.invokevirtual 35, 3) := by decide +kernel
theorem d_prog_64_method_10_97 : decode prog_64_method_10_code 97 = .ok (.return_, 1) := by decide +kernel
theorem d_prog_64_method_10_75 : decode prog_64_method_10_code 75 = .ok (.aload_n 0, 1) := by decide +kernel
theorem d_prog_64_method_10_76 : decode prog_64_method_10_code 76 = .ok (.aload_n 0, 1) := by decide +kernel
theorem d_prog_64_method_10_77 : decode prog_64_method_10_code 77 = .ok (.getfield 13, 3) := by decide +kernel
theorem d_prog_64_method_10_80 : decode prog_64_method_10_code 80 = .ok (.iload_n 3, 1) := by decide +kernel
theorem d_prog_64_method_10_81 : decode prog_64_method_10_code 81 = .ok (.iaload, 1) := by decide +kernel
theorem d_prog_64_method_10_82 : decode prog_64_method_10_code 82 = .ok (.iload_n 1, 1) := by decide +kernel
theorem d_prog_64_method_10_83 : decode prog_64_method_10_code 83 = .ok (.invokevirtual 35, 3) := by decide +kernel
theorem d_prog_64_method_10_86 : decode prog_64_method_10_code 86 = .ok (.iload_n 3, 1) := by decide +kernel
theorem d_prog_64_method_10_87 : decode prog_64_method_10_code 87 = .ok (.istore_n 1, 1) := by decide +kernel
theorem d_prog_64_method_10_88 : decode prog_64_method_10_code 88 = .ok (.goto (-81), 3) := by decide +kernel
theorem d_prog_64_method_10_34 : decode prog_64_method_10_code 34 = .ok (.aload_n 0, 1) := by decide +kernel
theorem d_prog_64_method_10_35 : decode prog_64_method_10_code 35 = .ok (.aload_n 0, 1) := by decide +kernel
theorem d_prog_64_method_10_36 : decode prog_64_method_10_code 36 = .ok (.getfield 13, 3) := by decide +kernel
theorem d_prog_64_method_10_39 : decode prog_64_method_10_code 39 = .ok (.iload_n 3, 1) := by decide +kernel
theorem d_prog_64_method_10_40 : decode prog_64_method_10_code 40 = .ok (.iconst 1, 1) := by decide +kernel
theorem d_prog_64_method_10_41 : decode prog_64_method_10_code 41 = .ok (.iadd, 1) := by decide +kernel
theorem d_prog_64_method_10_42 : decode prog_64_method_10_code 42 = .ok (.iaload, 1) := by decide +kernel
theorem d_prog_64_method_10_43 : decode prog_64_method_10_code 43 = .ok (.aload_n 0, 1) := by decide +kernel
theorem d_prog_64_method_10_44 : decode prog_64_method_10_code 44 = .ok (.getfield 13, 3) := by decide +kernel
theorem d_prog_64_method_10_47 : decode prog_64_method_10_code 47 = .ok (.iload_n 3, 1) := by decide +kernel
theorem d_prog_64_method_10_48 : decode prog_64_method_10_code 48 = .ok (.iaload, 1) := by decide +kernel
theorem d_prog_64_method_10_49 : decode prog_64_method_10_code 49 = .ok (.invokevirtual 31, 3) := by decide +kernel
theorem d_prog_64_method_10_52 : decode prog_64_method_10_code 52 = .ok (.ifCond .eq 6, 3) := by decide +kernel
theorem d_prog_64_method_10_55 : decode prog_64_method_10_code 55 = .ok (.iinc 3 1, 3) := by decide +kernel
theorem d_prog_64_method_10_21 : decode prog_64_method_10_code 21 = .ok (.goto 70, 3) := by decide +kernel
theorem pf_gDn : plainFor (⟨"com/example/strandwise/strandwise/network/VertexHeap", "siftDown", "(I)V"⟩ : MethodName) = true := by first | exact plainFor_of_name (by first | (simp [plainName, overriddenIn]; done) | decide +kernel) | decide +kernel
theorem ef_gDn (m : MethodId) (n0 : Nat) : entryFrame m #[(.ref (n0 + 3)), (.int (0 : Int32))] 4 = (mkF m 0 #[.val (.ref (n0 + 3)), .val (.int (0 : Int32)), .unset, .unset] []) := by first | (simp [entryFrame, mkF, argsToLocals, Value.category]; done) | rfl
set_option maxRecDepth 65536 in
set_option maxHeartbeats 40000000 in
theorem gDn (l : Launch) (Z : State) (a0 : Array Value) (hw : ∀ d ∈ tables_1, d.before a0 Z = true) (n0 : Nat) (D : List Int64) (S : List Int32) (H : List Int32) (Q : List Int32) (R : List Int32) (rc : Int32) (sz : Int32) (Pr : Int32 → Prop) (hD : D.length = 3) (ok : own_ok Pr sz.toInt H Q) (hs : sz.toInt ≤ 3) (h1 : 0 < sz.toInt) :
    own_met l Z n0 (⟨"com/example/strandwise/strandwise/network/VertexHeap", "siftDown", "(I)V"⟩ : MethodName) prog_64_method_10_code 4 none ({ frames := 1, cells := 0, slots := 0, locals := 14 } : Room) #[(.ref (n0 + 3)), (.int (0 : Int32))] [(own_obj Z "com/example/strandwise/strandwise/network/SearchState" ns_SearchState [(.ref (n0 + 1)), (.ref (n0 + 2)), (.ref (n0 + 3)), (.ref (n0 + 6)), (.int rc)]), (own_la Z D), (own_ia Z .byte S), (own_obj Z "com/example/strandwise/strandwise/network/VertexHeap" ns_VertexHeap [(.ref (n0 + 1)), (.ref (n0 + 4)), (.ref (n0 + 5)), (.int sz)]), (own_ia Z .int H), (own_ia Z .int Q), (own_ia Z .int R)] (fun v its' => v = none ∧ ∃ H' Q', own_ok Pr sz.toInt H' Q' ∧ its' = [(own_obj Z "com/example/strandwise/strandwise/network/SearchState" ns_SearchState [(.ref (n0 + 1)), (.ref (n0 + 2)), (.ref (n0 + 3)), (.ref (n0 + 6)), (.int rc)]), (own_la Z D), (own_ia Z .byte S), (own_obj Z "com/example/strandwise/strandwise/network/VertexHeap" ns_VertexHeap [(.ref (n0 + 1)), (.ref (n0 + 4)), (.ref (n0 + 5)), (.int sz)]), (own_ia Z .int H'), (own_ia Z .int Q'), (own_ia Z .int R)]) := by
  refine own_met.of pf_gDn ?_
  intro p e s m below meth c T0 hx hby hml hret hlk hZ hown hnm A0
  replace hown : s.vm.findClass "com/example/strandwise/strandwise/network/VertexHeap" = some m.cls := hown
  replace hml : c.maxLocals = 4 := hml
  rw [ef_gDn m n0]
  show own_go _ _ _ _ _ _ _ (T0.setTop (mkF m 0 #[.val (.ref (n0 + 3)), .val (.int (0 : Int32)), .unset, .unset] []))
  have hpv : Pr (own_g H (0 : Int32)) := ok.2.2.2.2 0 own_vt0 (by rw [show (0 : Int32).toInt = 0 from rfl]; exact h1)
  refine own_by (u' := T0.setTop (mkF m 1 #[.val (.ref (n0 + 3)), .val (.int (0 : Int32)), .unset, .unset] [(.ref (n0 + 3))])) (fun _ k => XS.aloadN A0.here hx rfl (own_db hby d_prog_64_method_10_0) rfl rfl k) ?_
  refine own_getF A0 hx hZ hown (hw _ (List.mem_of_getElem? (i := 26) rfl)) (i := 3) rfl 1 rfl rfl (own_db hby d_prog_64_method_10_1) ?_
  intro T1 A2
  show own_go _ _ _ _ _ _ _ (T1.setTop (mkF m 4 #[.val (.ref (n0 + 3)), .val (.int (0 : Int32)), .unset, .unset] [(.ref (n0 + 4))]))
  refine own_by (u' := T1.setTop (mkF m 5 #[.val (.ref (n0 + 3)), .val (.int (0 : Int32)), .unset, .unset] [(.int (0 : Int32)), (.ref (n0 + 4))])) (fun _ k => XS.iloadN A2.here hx rfl (own_db hby d_prog_64_method_10_4) rfl k) ?_
  refine own_iaload A2 hx hZ (i := 4) rfl (x := (own_g H (0 : Int32))) (own_rd ok.1 own_vt0.1 own_vt0.2) (own_db hby d_prog_64_method_10_5) ?_
  show own_go _ _ _ _ _ _ _ (T1.setTop (mkF m 6 #[.val (.ref (n0 + 3)), .val (.int (0 : Int32)), .unset, .unset] [(.int (own_g H (0 : Int32)))]))
  refine own_by (u' := T1.setTop (mkF m 7 #[.val (.ref (n0 + 3)), .val (.int (0 : Int32)), .val (.int (own_g H (0 : Int32))), .unset] [])) (fun _ k => XS.istoreN A2.here hx rfl (own_db hby d_prog_64_method_10_6) rfl (l' := #[.val (.ref (n0 + 3)), .val (.int (0 : Int32)), .val (.int (own_g H (0 : Int32))), .unset]) rfl k) ?_
  have lp3 : ∀ (k : Nat) (T4 : State) (ii : Int32) (s3 : Slot) (H1 : List Int32) (Q1 : List Int32), own_at p l e ({ frames := 1, cells := 0, slots := 0, locals := 14 } : Room) s m #[(.ref (n0 + 3)), (.int (0 : Int32))] below meth c n0 T4 0 0 [(own_obj Z "com/example/strandwise/strandwise/network/SearchState" ns_SearchState [(.ref (n0 + 1)), (.ref (n0 + 2)), (.ref (n0 + 3)), (.ref (n0 + 6)), (.int rc)]), (own_la Z D), (own_ia Z .byte S), (own_obj Z "com/example/strandwise/strandwise/network/VertexHeap" ns_VertexHeap [(.ref (n0 + 1)), (.ref (n0 + 4)), (.ref (n0 + 5)), (.int sz)]), (own_ia Z .int H1), (own_ia Z .int Q1), (own_ia Z .int R)] → (s3 = Slot.unset ∨ ∃ w, s3 = Slot.val w ∧ w.category = 1) → (3 ≤ ii.toInt + ((k : Nat) : Int)) → (own_vt ii) → (own_ok Pr sz.toInt H1 Q1) → own_go p e ({ frames := 1, cells := 0, slots := 0, locals := 14 } : Room) s below n0 (fun v its' => v = none ∧ ∃ H' Q', own_ok Pr sz.toInt H' Q' ∧ its' = [(own_obj Z "com/example/strandwise/strandwise/network/SearchState" ns_SearchState [(.ref (n0 + 1)), (.ref (n0 + 2)), (.ref (n0 + 3)), (.ref (n0 + 6)), (.int rc)]), (own_la Z D), (own_ia Z .byte S), (own_obj Z "com/example/strandwise/strandwise/network/VertexHeap" ns_VertexHeap [(.ref (n0 + 1)), (.ref (n0 + 4)), (.ref (n0 + 5)), (.int sz)]), (own_ia Z .int H'), (own_ia Z .int Q'), (own_ia Z .int R)]) (T4.setTop (mkF m 7 #[.val (.ref (n0 + 3)), .val (.int ii), .val (.int (own_g H (0 : Int32))), s3] [])) := by
    intro k
    induction k with
    | zero =>
      intro T4 ii s3 H1 Q1 A5 h_s3 hk hi ok1
      exact absurd hi.2 (by omega)
    | succ k ih6 =>
      intro T4 ii s3 H1 Q1 A5 h_s3 hk hi ok1
      refine own_by (u' := T4.setTop (mkF m 8 #[.val (.ref (n0 + 3)), .val (.int ii), .val (.int (own_g H (0 : Int32))), s3] [(.int (2 : Int32))])) (fun _ k => XS.iconst A5.here hx rfl (own_db hby d_prog_64_method_10_7) k) ?_
      refine own_by (u' := T4.setTop (mkF m 9 #[.val (.ref (n0 + 3)), .val (.int ii), .val (.int (own_g H (0 : Int32))), s3] [(.int ii), (.int (2 : Int32))])) (fun _ k => XS.iloadN A5.here hx rfl (own_db hby d_prog_64_method_10_8) rfl k) ?_
      refine own_by (u' := T4.setTop (mkF m 10 #[.val (.ref (n0 + 3)), .val (.int ii), .val (.int (own_g H (0 : Int32))), s3] [(.int ((2 : Int32) * ii))])) (fun _ k => XS.imul A5.here hx rfl (own_db hby d_prog_64_method_10_9) rfl k) ?_
      refine own_by (u' := T4.setTop (mkF m 11 #[.val (.ref (n0 + 3)), .val (.int ii), .val (.int (own_g H (0 : Int32))), s3] [(.int (1 : Int32)), (.int ((2 : Int32) * ii))])) (fun _ k => XS.iconst A5.here hx rfl (own_db hby d_prog_64_method_10_10) k) ?_
      refine own_by (u' := T4.setTop (mkF m 12 #[.val (.ref (n0 + 3)), .val (.int ii), .val (.int (own_g H (0 : Int32))), s3] [(.int (((2 : Int32) * ii) + (1 : Int32)))])) (fun _ k => XS.iadd A5.here hx rfl (own_db hby d_prog_64_method_10_11) rfl k) ?_
      refine own_by (u' := T4.setTop (mkF m 13 #[.val (.ref (n0 + 3)), .val (.int ii), .val (.int (own_g H (0 : Int32))), .val (.int (((2 : Int32) * ii) + (1 : Int32)))] [])) (fun _ k => XS.istoreNS A5.here hx rfl (own_db hby d_prog_64_method_10_12) rfl (o := s3) rfl h_s3 k) ?_
      refine own_by (u' := T4.setTop (mkF m 14 #[.val (.ref (n0 + 3)), .val (.int ii), .val (.int (own_g H (0 : Int32))), .val (.int (((2 : Int32) * ii) + (1 : Int32)))] [(.int (((2 : Int32) * ii) + (1 : Int32)))])) (fun _ k => XS.iloadN A5.here hx rfl (own_db hby d_prog_64_method_10_13) rfl k) ?_
      refine own_by (u' := T4.setTop (mkF m 15 #[.val (.ref (n0 + 3)), .val (.int ii), .val (.int (own_g H (0 : Int32))), .val (.int (((2 : Int32) * ii) + (1 : Int32)))] [(.ref (n0 + 3)), (.int (((2 : Int32) * ii) + (1 : Int32)))])) (fun _ k => XS.aloadN A5.here hx rfl (own_db hby d_prog_64_method_10_14) rfl rfl k) ?_
      refine own_getF A5 hx hZ hown (hw _ (List.mem_of_getElem? (i := 51) rfl)) (i := 3) rfl 3 rfl rfl (own_db hby d_prog_64_method_10_15) ?_
      intro T7 A8
      show own_go _ _ _ _ _ _ _ (T7.setTop (mkF m 18 #[.val (.ref (n0 + 3)), .val (.int ii), .val (.int (own_g H (0 : Int32))), .val (.int (((2 : Int32) * ii) + (1 : Int32)))] [(.int sz), (.int (((2 : Int32) * ii) + (1 : Int32)))]))
      by_cases hc9 : (((2 : Int32) * ii) + (1 : Int32)) < sz
      · refine own_by (u' := T7.setTop (mkF m 24 #[.val (.ref (n0 + 3)), .val (.int ii), .val (.int (own_g H (0 : Int32))), .val (.int (((2 : Int32) * ii) + (1 : Int32)))] [])) (fun _ k => XS.icmpYes A8.here hx rfl (pc0 := 18) (pc' := 24) rfl (own_db hby d_prog_64_method_10_18) rfl (tlt hc9).1 (by decide) (by decide) k) ?_
        refine own_by (u' := T7.setTop (mkF m 25 #[.val (.ref (n0 + 3)), .val (.int ii), .val (.int (own_g H (0 : Int32))), .val (.int (((2 : Int32) * ii) + (1 : Int32)))] [(.int (((2 : Int32) * ii) + (1 : Int32)))])) (fun _ k => XS.iloadN A8.here hx rfl (own_db hby d_prog_64_method_10_24) rfl k) ?_
        refine own_by (u' := T7.setTop (mkF m 26 #[.val (.ref (n0 + 3)), .val (.int ii), .val (.int (own_g H (0 : Int32))), .val (.int (((2 : Int32) * ii) + (1 : Int32)))] [(.int (1 : Int32)), (.int (((2 : Int32) * ii) + (1 : Int32)))])) (fun _ k => XS.iconst A8.here hx rfl (own_db hby d_prog_64_method_10_25) k) ?_
        refine own_by (u' := T7.setTop (mkF m 27 #[.val (.ref (n0 + 3)), .val (.int ii), .val (.int (own_g H (0 : Int32))), .val (.int (((2 : Int32) * ii) + (1 : Int32)))] [(.int ((((2 : Int32) * ii) + (1 : Int32)) + (1 : Int32)))])) (fun _ k => XS.iadd A8.here hx rfl (own_db hby d_prog_64_method_10_26) rfl k) ?_
        refine own_by (u' := T7.setTop (mkF m 28 #[.val (.ref (n0 + 3)), .val (.int ii), .val (.int (own_g H (0 : Int32))), .val (.int (((2 : Int32) * ii) + (1 : Int32)))] [(.ref (n0 + 3)), (.int ((((2 : Int32) * ii) + (1 : Int32)) + (1 : Int32)))])) (fun _ k => XS.aloadN A8.here hx rfl (own_db hby d_prog_64_method_10_27) rfl rfl k) ?_
        refine own_getF A8 hx hZ hown (hw _ (List.mem_of_getElem? (i := 51) rfl)) (i := 3) rfl 3 rfl rfl (own_db hby d_prog_64_method_10_28) ?_
        intro T10 A11
        show own_go _ _ _ _ _ _ _ (T10.setTop (mkF m 31 #[.val (.ref (n0 + 3)), .val (.int ii), .val (.int (own_g H (0 : Int32))), .val (.int (((2 : Int32) * ii) + (1 : Int32)))] [(.int sz), (.int ((((2 : Int32) * ii) + (1 : Int32)) + (1 : Int32)))]))
        have J12 : ∀ (T13 : State) (ch : Int32), own_at p l e ({ frames := 1, cells := 0, slots := 0, locals := 14 } : Room) s m #[(.ref (n0 + 3)), (.int (0 : Int32))] below meth c n0 T13 0 0 [(own_obj Z "com/example/strandwise/strandwise/network/SearchState" ns_SearchState [(.ref (n0 + 1)), (.ref (n0 + 2)), (.ref (n0 + 3)), (.ref (n0 + 6)), (.int rc)]), (own_la Z D), (own_ia Z .byte S), (own_obj Z "com/example/strandwise/strandwise/network/VertexHeap" ns_VertexHeap [(.ref (n0 + 1)), (.ref (n0 + 4)), (.ref (n0 + 5)), (.int sz)]), (own_ia Z .int H1), (own_ia Z .int Q1), (own_ia Z .int R)] → (own_vt ch ∧ ii.toInt + 1 ≤ ch.toInt ∧ ch.toInt < sz.toInt) → own_go p e ({ frames := 1, cells := 0, slots := 0, locals := 14 } : Room) s below n0 (fun v its' => v = none ∧ ∃ H' Q', own_ok Pr sz.toInt H' Q' ∧ its' = [(own_obj Z "com/example/strandwise/strandwise/network/SearchState" ns_SearchState [(.ref (n0 + 1)), (.ref (n0 + 2)), (.ref (n0 + 3)), (.ref (n0 + 6)), (.int rc)]), (own_la Z D), (own_ia Z .byte S), (own_obj Z "com/example/strandwise/strandwise/network/VertexHeap" ns_VertexHeap [(.ref (n0 + 1)), (.ref (n0 + 4)), (.ref (n0 + 5)), (.int sz)]), (own_ia Z .int H'), (own_ia Z .int Q'), (own_ia Z .int R)]) (T13.setTop (mkF m 58 #[.val (.ref (n0 + 3)), .val (.int ii), .val (.int (own_g H (0 : Int32))), .val (.int ch)] [])) := by
          intro T13 ch A14 hch
          refine own_by (u' := T13.setTop (mkF m 59 #[.val (.ref (n0 + 3)), .val (.int ii), .val (.int (own_g H (0 : Int32))), .val (.int ch)] [(.ref (n0 + 3))])) (fun _ k => XS.aloadN A14.here hx rfl (own_db hby d_prog_64_method_10_58) rfl rfl k) ?_
          refine own_by (u' := T13.setTop (mkF m 60 #[.val (.ref (n0 + 3)), .val (.int ii), .val (.int (own_g H (0 : Int32))), .val (.int ch)] [(.ref (n0 + 3)), (.ref (n0 + 3))])) (fun _ k => XS.aloadN A14.here hx rfl (own_db hby d_prog_64_method_10_59) rfl rfl k) ?_
          refine own_getF A14 hx hZ hown (hw _ (List.mem_of_getElem? (i := 26) rfl)) (i := 3) rfl 1 rfl rfl (own_db hby d_prog_64_method_10_60) ?_
          intro T15 A16
          show own_go _ _ _ _ _ _ _ (T15.setTop (mkF m 63 #[.val (.ref (n0 + 3)), .val (.int ii), .val (.int (own_g H (0 : Int32))), .val (.int ch)] [(.ref (n0 + 4)), (.ref (n0 + 3))]))
          refine own_by (u' := T15.setTop (mkF m 64 #[.val (.ref (n0 + 3)), .val (.int ii), .val (.int (own_g H (0 : Int32))), .val (.int ch)] [(.int ch), (.ref (n0 + 4)), (.ref (n0 + 3))])) (fun _ k => XS.iloadN A16.here hx rfl (own_db hby d_prog_64_method_10_63) rfl k) ?_
          refine own_iaload A16 hx hZ (i := 4) rfl (x := (own_g H1 ch)) (own_rd ok1.1 hch.1.1 hch.1.2) (own_db hby d_prog_64_method_10_64) ?_
          show own_go _ _ _ _ _ _ _ (T15.setTop (mkF m 65 #[.val (.ref (n0 + 3)), .val (.int ii), .val (.int (own_g H (0 : Int32))), .val (.int ch)] [(.int (own_g H1 ch)), (.ref (n0 + 3))]))
          refine own_by (u' := T15.setTop (mkF m 66 #[.val (.ref (n0 + 3)), .val (.int ii), .val (.int (own_g H (0 : Int32))), .val (.int ch)] [(.int (own_g H (0 : Int32))), (.int (own_g H1 ch)), (.ref (n0 + 3))])) (fun _ k => XS.iloadN A16.here hx rfl (own_db hby d_prog_64_method_10_65) rfl k) ?_
          refine own_callP (y := (⟨"com/example/strandwise/strandwise/network/VertexHeap", "precedes", "(II)Z"⟩ : MethodName)) (rest := []) A16 hx hZ hown (hw _ (List.mem_of_getElem? (i := 61) rfl)) (hw _ (List.mem_of_getElem? (i := 63) rfl)) (hw _ (List.mem_of_getElem? (i := 17) rfl)) (hw _ (List.mem_of_getElem? (i := 62) rfl)) (hw _ (List.mem_of_getElem? (i := 18) rfl)) (hw _ (List.mem_of_getElem? (i := 64) rfl)) (by decide) (i := 3) rfl (gP l Z a0 hw n0 D S H1 Q1 R rc sz (own_g H1 ch) (own_g H (0 : Int32)) hD (own_okv ok1 hch.1) (own_okv ok own_vt0)) (by rw [hml]; rfl) [(.int (own_g H1 ch)), (.int (own_g H (0 : Int32)))] rfl rfl pd__II_Z rfl (W := 0) (by show 2 * 0 + _ ≤ _; exact Nat.le_of_eq rfl) (own_db hby d_prog_64_method_10_66) (by decide) (by decide) (by decide) (by decide) ?_
          intro v17 i18 T20 hq19 A21
          obtain ⟨rfl, he22⟩ := hq19
          rw [he22] at A21
          replace A21 : own_at p l e _ s m _ below meth c n0 T20 0 0 [(own_obj Z "com/example/strandwise/strandwise/network/SearchState" ns_SearchState [(.ref (n0 + 1)), (.ref (n0 + 2)), (.ref (n0 + 3)), (.ref (n0 + 6)), (.int rc)]), (own_la Z D), (own_ia Z .byte S), (own_obj Z "com/example/strandwise/strandwise/network/VertexHeap" ns_VertexHeap [(.ref (n0 + 1)), (.ref (n0 + 4)), (.ref (n0 + 5)), (.int sz)]), (own_ia Z .int H1), (own_ia Z .int Q1), (own_ia Z .int R)] := A21
          show own_go _ _ _ _ _ _ _ (T20.setTop (mkF m 69 #[.val (.ref (n0 + 3)), .val (.int ii), .val (.int (own_g H (0 : Int32))), .val (.int ch)] [(.int (fP D (own_g H1 ch) (own_g H (0 : Int32))))]))
          by_cases hc23 : (fP D (own_g H1 ch) (own_g H (0 : Int32))) = (0 : Int32)
          · refine own_by (u' := T20.setTop (mkF m 72 #[.val (.ref (n0 + 3)), .val (.int ii), .val (.int (own_g H (0 : Int32))), .val (.int ch)] [])) (fun _ k => XS.ifNo A21.here hx rfl (own_db hby d_prog_64_method_10_69) rfl ((if0 _ _).trans (teq hc23).2) k) ?_
            refine own_by (u' := T20.setTop (mkF m 91 #[.val (.ref (n0 + 3)), .val (.int ii), .val (.int (own_g H (0 : Int32))), .val (.int ch)] [])) (fun _ k => XS.goto A21.here hx rfl (pc0 := 72) (pc' := 91) rfl (own_db hby d_prog_64_method_10_72) (by decide) (by decide) k) ?_
            refine own_by (u' := T20.setTop (mkF m 92 #[.val (.ref (n0 + 3)), .val (.int ii), .val (.int (own_g H (0 : Int32))), .val (.int ch)] [(.ref (n0 + 3))])) (fun _ k => XS.aloadN A21.here hx rfl (own_db hby d_prog_64_method_10_91) rfl rfl k) ?_
            refine own_by (u' := T20.setTop (mkF m 93 #[.val (.ref (n0 + 3)), .val (.int ii), .val (.int (own_g H (0 : Int32))), .val (.int ch)] [(.int (own_g H (0 : Int32))), (.ref (n0 + 3))])) (fun _ k => XS.iloadN A21.here hx rfl (own_db hby d_prog_64_method_10_92) rfl k) ?_
            refine own_by (u' := T20.setTop (mkF m 94 #[.val (.ref (n0 + 3)), .val (.int ii), .val (.int (own_g H (0 : Int32))), .val (.int ch)] [(.int ii), (.int (own_g H (0 : Int32))), (.ref (n0 + 3))])) (fun _ k => XS.iloadN A21.here hx rfl (own_db hby d_prog_64_method_10_93) rfl k) ?_
            refine own_callP (y := (⟨"com/example/strandwise/strandwise/network/VertexHeap", "place", "(II)V"⟩ : MethodName)) (rest := []) A21 hx hZ hown (hw _ (List.mem_of_getElem? (i := 57) rfl)) (hw _ (List.mem_of_getElem? (i := 59) rfl)) (hw _ (List.mem_of_getElem? (i := 17) rfl)) (hw _ (List.mem_of_getElem? (i := 58) rfl)) (hw _ (List.mem_of_getElem? (i := 18) rfl)) (hw _ (List.mem_of_getElem? (i := 60) rfl)) (by decide) (i := 3) rfl (gL l Z a0 hw n0 D S H1 Q1 R rc sz (own_g H (0 : Int32)) ii ok1.1 ok1.2.1 (own_okv ok own_vt0) hi) (by rw [hml]; rfl) [(.int (own_g H (0 : Int32))), (.int ii)] rfl rfl pd__II_V rfl (W := 0) (by show 2 * 0 + _ ≤ _; exact Nat.le_of_eq rfl) (own_db hby d_prog_64_method_10_94) (by decide) (by decide) (by decide) (by decide) ?_
            intro v24 i25 T27 hq26 A28
            obtain ⟨rfl, he29⟩ := hq26
            rw [he29] at A28
            replace A28 : own_at p l e _ s m _ below meth c n0 T27 0 0 [(own_obj Z "com/example/strandwise/strandwise/network/SearchState" ns_SearchState [(.ref (n0 + 1)), (.ref (n0 + 2)), (.ref (n0 + 3)), (.ref (n0 + 6)), (.int rc)]), (own_la Z D), (own_ia Z .byte S), (own_obj Z "com/example/strandwise/strandwise/network/VertexHeap" ns_VertexHeap [(.ref (n0 + 1)), (.ref (n0 + 4)), (.ref (n0 + 5)), (.int sz)]), (own_ia Z .int (H1.set ii.toNatClampNeg (own_g H (0 : Int32)))), (own_ia Z .int (Q1.set (own_g H (0 : Int32)).toNatClampNeg ii)), (own_ia Z .int R)] := A28
            show own_go _ _ _ _ _ _ _ (T27.setTop (mkF m 97 #[.val (.ref (n0 + 3)), .val (.int ii), .val (.int (own_g H (0 : Int32))), .val (.int ch)] []))
            exact own_retV A28 hx hlk hret (own_db hby d_prog_64_method_10_97) (by decide) (by decide) ⟨rfl, _, _, own_okP ok1 (own_okv ok own_vt0) hi (fun _ => hpv), rfl⟩
          · refine own_by (u' := T20.setTop (mkF m 75 #[.val (.ref (n0 + 3)), .val (.int ii), .val (.int (own_g H (0 : Int32))), .val (.int ch)] [])) (fun _ k => XS.ifYes A21.here hx rfl (pc0 := 69) (pc' := 75) rfl (own_db hby d_prog_64_method_10_69) rfl ((if0 _ _).trans (feq hc23).2) (by decide) (by decide) k) ?_
            refine own_by (u' := T20.setTop (mkF m 76 #[.val (.ref (n0 + 3)), .val (.int ii), .val (.int (own_g H (0 : Int32))), .val (.int ch)] [(.ref (n0 + 3))])) (fun _ k => XS.aloadN A21.here hx rfl (own_db hby d_prog_64_method_10_75) rfl rfl k) ?_
            refine own_by (u' := T20.setTop (mkF m 77 #[.val (.ref (n0 + 3)), .val (.int ii), .val (.int (own_g H (0 : Int32))), .val (.int ch)] [(.ref (n0 + 3)), (.ref (n0 + 3))])) (fun _ k => XS.aloadN A21.here hx rfl (own_db hby d_prog_64_method_10_76) rfl rfl k) ?_
            refine own_getF A21 hx hZ hown (hw _ (List.mem_of_getElem? (i := 26) rfl)) (i := 3) rfl 1 rfl rfl (own_db hby d_prog_64_method_10_77) ?_
            intro T30 A31
            show own_go _ _ _ _ _ _ _ (T30.setTop (mkF m 80 #[.val (.ref (n0 + 3)), .val (.int ii), .val (.int (own_g H (0 : Int32))), .val (.int ch)] [(.ref (n0 + 4)), (.ref (n0 + 3))]))
            refine own_by (u' := T30.setTop (mkF m 81 #[.val (.ref (n0 + 3)), .val (.int ii), .val (.int (own_g H (0 : Int32))), .val (.int ch)] [(.int ch), (.ref (n0 + 4)), (.ref (n0 + 3))])) (fun _ k => XS.iloadN A31.here hx rfl (own_db hby d_prog_64_method_10_80) rfl k) ?_
            refine own_iaload A31 hx hZ (i := 4) rfl (x := (own_g H1 ch)) (own_rd ok1.1 hch.1.1 hch.1.2) (own_db hby d_prog_64_method_10_81) ?_
            show own_go _ _ _ _ _ _ _ (T30.setTop (mkF m 82 #[.val (.ref (n0 + 3)), .val (.int ii), .val (.int (own_g H (0 : Int32))), .val (.int ch)] [(.int (own_g H1 ch)), (.ref (n0 + 3))]))
            refine own_by (u' := T30.setTop (mkF m 83 #[.val (.ref (n0 + 3)), .val (.int ii), .val (.int (own_g H (0 : Int32))), .val (.int ch)] [(.int ii), (.int (own_g H1 ch)), (.ref (n0 + 3))])) (fun _ k => XS.iloadN A31.here hx rfl (own_db hby d_prog_64_method_10_82) rfl k) ?_
            refine own_callP (y := (⟨"com/example/strandwise/strandwise/network/VertexHeap", "place", "(II)V"⟩ : MethodName)) (rest := []) A31 hx hZ hown (hw _ (List.mem_of_getElem? (i := 57) rfl)) (hw _ (List.mem_of_getElem? (i := 59) rfl)) (hw _ (List.mem_of_getElem? (i := 17) rfl)) (hw _ (List.mem_of_getElem? (i := 58) rfl)) (hw _ (List.mem_of_getElem? (i := 18) rfl)) (hw _ (List.mem_of_getElem? (i := 60) rfl)) (by decide) (i := 3) rfl (gL l Z a0 hw n0 D S H1 Q1 R rc sz (own_g H1 ch) ii ok1.1 ok1.2.1 (own_okv ok1 hch.1) hi) (by rw [hml]; rfl) [(.int (own_g H1 ch)), (.int ii)] rfl rfl pd__II_V rfl (W := 0) (by show 2 * 0 + _ ≤ _; exact Nat.le_of_eq rfl) (own_db hby d_prog_64_method_10_83) (by decide) (by decide) (by decide) (by decide) ?_
            intro v32 i33 T35 hq34 A36
            obtain ⟨rfl, he37⟩ := hq34
            rw [he37] at A36
            replace A36 : own_at p l e _ s m _ below meth c n0 T35 0 0 [(own_obj Z "com/example/strandwise/strandwise/network/SearchState" ns_SearchState [(.ref (n0 + 1)), (.ref (n0 + 2)), (.ref (n0 + 3)), (.ref (n0 + 6)), (.int rc)]), (own_la Z D), (own_ia Z .byte S), (own_obj Z "com/example/strandwise/strandwise/network/VertexHeap" ns_VertexHeap [(.ref (n0 + 1)), (.ref (n0 + 4)), (.ref (n0 + 5)), (.int sz)]), (own_ia Z .int (H1.set ii.toNatClampNeg (own_g H1 ch))), (own_ia Z .int (Q1.set (own_g H1 ch).toNatClampNeg ii)), (own_ia Z .int R)] := A36
            show own_go _ _ _ _ _ _ _ (T35.setTop (mkF m 86 #[.val (.ref (n0 + 3)), .val (.int ii), .val (.int (own_g H (0 : Int32))), .val (.int ch)] []))
            refine own_by (u' := T35.setTop (mkF m 87 #[.val (.ref (n0 + 3)), .val (.int ii), .val (.int (own_g H (0 : Int32))), .val (.int ch)] [(.int ch)])) (fun _ k => XS.iloadN A36.here hx rfl (own_db hby d_prog_64_method_10_86) rfl k) ?_
            refine own_by (u' := T35.setTop (mkF m 88 #[.val (.ref (n0 + 3)), .val (.int ch), .val (.int (own_g H (0 : Int32))), .val (.int ch)] [])) (fun _ k => XS.istoreN A36.here hx rfl (own_db hby d_prog_64_method_10_87) rfl (l' := #[.val (.ref (n0 + 3)), .val (.int ch), .val (.int (own_g H (0 : Int32))), .val (.int ch)]) rfl k) ?_
            refine own_by (u' := T35.setTop (mkF m 7 #[.val (.ref (n0 + 3)), .val (.int ch), .val (.int (own_g H (0 : Int32))), .val (.int ch)] [])) (fun _ k => XS.goto A36.here hx rfl (pc0 := 88) (pc' := 7) rfl (own_db hby d_prog_64_method_10_88) (by decide) (by decide) k) ?_
            exact ih6 _ ch (.val (.int ch)) ((H1.set ii.toNatClampNeg (own_g H1 ch))) ((Q1.set (own_g H1 ch).toNatClampNeg ii)) A36 (Or.inr ⟨_, rfl, rfl⟩) (by have := hch.2.1; omega) hch.1 (own_okP ok1 (own_okv ok1 hch.1) hi (fun _ => ok1.2.2.2.2 _ hch.1 hch.2.2))
        by_cases hc38 : ((((2 : Int32) * ii) + (1 : Int32)) + (1 : Int32)) < sz
        · refine own_by (u' := T10.setTop (mkF m 34 #[.val (.ref (n0 + 3)), .val (.int ii), .val (.int (own_g H (0 : Int32))), .val (.int (((2 : Int32) * ii) + (1 : Int32)))] [])) (fun _ k => XS.icmpNo A11.here hx rfl (own_db hby d_prog_64_method_10_31) rfl (tlt hc38).2.1 k) ?_
          refine own_by (u' := T10.setTop (mkF m 35 #[.val (.ref (n0 + 3)), .val (.int ii), .val (.int (own_g H (0 : Int32))), .val (.int (((2 : Int32) * ii) + (1 : Int32)))] [(.ref (n0 + 3))])) (fun _ k => XS.aloadN A11.here hx rfl (own_db hby d_prog_64_method_10_34) rfl rfl k) ?_
          refine own_by (u' := T10.setTop (mkF m 36 #[.val (.ref (n0 + 3)), .val (.int ii), .val (.int (own_g H (0 : Int32))), .val (.int (((2 : Int32) * ii) + (1 : Int32)))] [(.ref (n0 + 3)), (.ref (n0 + 3))])) (fun _ k => XS.aloadN A11.here hx rfl (own_db hby d_prog_64_method_10_35) rfl rfl k) ?_
          refine own_getF A11 hx hZ hown (hw _ (List.mem_of_getElem? (i := 26) rfl)) (i := 3) rfl 1 rfl rfl (own_db hby d_prog_64_method_10_36) ?_
          intro T39 A40
          show own_go _ _ _ _ _ _ _ (T39.setTop (mkF m 39 #[.val (.ref (n0 + 3)), .val (.int ii), .val (.int (own_g H (0 : Int32))), .val (.int (((2 : Int32) * ii) + (1 : Int32)))] [(.ref (n0 + 4)), (.ref (n0 + 3))]))
          refine own_by (u' := T39.setTop (mkF m 40 #[.val (.ref (n0 + 3)), .val (.int ii), .val (.int (own_g H (0 : Int32))), .val (.int (((2 : Int32) * ii) + (1 : Int32)))] [(.int (((2 : Int32) * ii) + (1 : Int32))), (.ref (n0 + 4)), (.ref (n0 + 3))])) (fun _ k => XS.iloadN A40.here hx rfl (own_db hby d_prog_64_method_10_39) rfl k) ?_
          refine own_by (u' := T39.setTop (mkF m 41 #[.val (.ref (n0 + 3)), .val (.int ii), .val (.int (own_g H (0 : Int32))), .val (.int (((2 : Int32) * ii) + (1 : Int32)))] [(.int (1 : Int32)), (.int (((2 : Int32) * ii) + (1 : Int32))), (.ref (n0 + 4)), (.ref (n0 + 3))])) (fun _ k => XS.iconst A40.here hx rfl (own_db hby d_prog_64_method_10_40) k) ?_
          refine own_by (u' := T39.setTop (mkF m 42 #[.val (.ref (n0 + 3)), .val (.int ii), .val (.int (own_g H (0 : Int32))), .val (.int (((2 : Int32) * ii) + (1 : Int32)))] [(.int ((((2 : Int32) * ii) + (1 : Int32)) + (1 : Int32))), (.ref (n0 + 4)), (.ref (n0 + 3))])) (fun _ k => XS.iadd A40.here hx rfl (own_db hby d_prog_64_method_10_41) rfl k) ?_
          refine own_iaload A40 hx hZ (i := 4) rfl (x := (own_g H1 ((((2 : Int32) * ii) + (1 : Int32)) + (1 : Int32)))) (own_rd ok1.1 (own_chv1 hi hs hc9 hc38).1.1 (own_chv1 hi hs hc9 hc38).1.2) (own_db hby d_prog_64_method_10_42) ?_
          show own_go _ _ _ _ _ _ _ (T39.setTop (mkF m 43 #[.val (.ref (n0 + 3)), .val (.int ii), .val (.int (own_g H (0 : Int32))), .val (.int (((2 : Int32) * ii) + (1 : Int32)))] [(.int (own_g H1 ((((2 : Int32) * ii) + (1 : Int32)) + (1 : Int32)))), (.ref (n0 + 3))]))
          refine own_by (u' := T39.setTop (mkF m 44 #[.val (.ref (n0 + 3)), .val (.int ii), .val (.int (own_g H (0 : Int32))), .val (.int (((2 : Int32) * ii) + (1 : Int32)))] [(.ref (n0 + 3)), (.int (own_g H1 ((((2 : Int32) * ii) + (1 : Int32)) + (1 : Int32)))), (.ref (n0 + 3))])) (fun _ k => XS.aloadN A40.here hx rfl (own_db hby d_prog_64_method_10_43) rfl rfl k) ?_
          refine own_getF A40 hx hZ hown (hw _ (List.mem_of_getElem? (i := 26) rfl)) (i := 3) rfl 1 rfl rfl (own_db hby d_prog_64_method_10_44) ?_
          intro T41 A42
          show own_go _ _ _ _ _ _ _ (T41.setTop (mkF m 47 #[.val (.ref (n0 + 3)), .val (.int ii), .val (.int (own_g H (0 : Int32))), .val (.int (((2 : Int32) * ii) + (1 : Int32)))] [(.ref (n0 + 4)), (.int (own_g H1 ((((2 : Int32) * ii) + (1 : Int32)) + (1 : Int32)))), (.ref (n0 + 3))]))
          refine own_by (u' := T41.setTop (mkF m 48 #[.val (.ref (n0 + 3)), .val (.int ii), .val (.int (own_g H (0 : Int32))), .val (.int (((2 : Int32) * ii) + (1 : Int32)))] [(.int (((2 : Int32) * ii) + (1 : Int32))), (.ref (n0 + 4)), (.int (own_g H1 ((((2 : Int32) * ii) + (1 : Int32)) + (1 : Int32)))), (.ref (n0 + 3))])) (fun _ k => XS.iloadN A42.here hx rfl (own_db hby d_prog_64_method_10_47) rfl k) ?_
          refine own_iaload A42 hx hZ (i := 4) rfl (x := (own_g H1 (((2 : Int32) * ii) + (1 : Int32)))) (own_rd ok1.1 (own_chv hi hs hc9).1.1 (own_chv hi hs hc9).1.2) (own_db hby d_prog_64_method_10_48) ?_
          show own_go _ _ _ _ _ _ _ (T41.setTop (mkF m 49 #[.val (.ref (n0 + 3)), .val (.int ii), .val (.int (own_g H (0 : Int32))), .val (.int (((2 : Int32) * ii) + (1 : Int32)))] [(.int (own_g H1 (((2 : Int32) * ii) + (1 : Int32)))), (.int (own_g H1 ((((2 : Int32) * ii) + (1 : Int32)) + (1 : Int32)))), (.ref (n0 + 3))]))
          refine own_callP (y := (⟨"com/example/strandwise/strandwise/network/VertexHeap", "precedes", "(II)Z"⟩ : MethodName)) (rest := []) A42 hx hZ hown (hw _ (List.mem_of_getElem? (i := 61) rfl)) (hw _ (List.mem_of_getElem? (i := 63) rfl)) (hw _ (List.mem_of_getElem? (i := 17) rfl)) (hw _ (List.mem_of_getElem? (i := 62) rfl)) (hw _ (List.mem_of_getElem? (i := 18) rfl)) (hw _ (List.mem_of_getElem? (i := 64) rfl)) (by decide) (i := 3) rfl (gP l Z a0 hw n0 D S H1 Q1 R rc sz (own_g H1 ((((2 : Int32) * ii) + (1 : Int32)) + (1 : Int32))) (own_g H1 (((2 : Int32) * ii) + (1 : Int32))) hD (own_okv ok1 (own_chv1 hi hs hc9 hc38).1) (own_okv ok1 (own_chv hi hs hc9).1)) (by rw [hml]; rfl) [(.int (own_g H1 ((((2 : Int32) * ii) + (1 : Int32)) + (1 : Int32)))), (.int (own_g H1 (((2 : Int32) * ii) + (1 : Int32))))] rfl rfl pd__II_Z rfl (W := 0) (by show 2 * 0 + _ ≤ _; exact Nat.le_of_eq rfl) (own_db hby d_prog_64_method_10_49) (by decide) (by decide) (by decide) (by decide) ?_
          intro v43 i44 T46 hq45 A47
          obtain ⟨rfl, he48⟩ := hq45
          rw [he48] at A47
          replace A47 : own_at p l e _ s m _ below meth c n0 T46 0 0 [(own_obj Z "com/example/strandwise/strandwise/network/SearchState" ns_SearchState [(.ref (n0 + 1)), (.ref (n0 + 2)), (.ref (n0 + 3)), (.ref (n0 + 6)), (.int rc)]), (own_la Z D), (own_ia Z .byte S), (own_obj Z "com/example/strandwise/strandwise/network/VertexHeap" ns_VertexHeap [(.ref (n0 + 1)), (.ref (n0 + 4)), (.ref (n0 + 5)), (.int sz)]), (own_ia Z .int H1), (own_ia Z .int Q1), (own_ia Z .int R)] := A47
          show own_go _ _ _ _ _ _ _ (T46.setTop (mkF m 52 #[.val (.ref (n0 + 3)), .val (.int ii), .val (.int (own_g H (0 : Int32))), .val (.int (((2 : Int32) * ii) + (1 : Int32)))] [(.int (fP D (own_g H1 ((((2 : Int32) * ii) + (1 : Int32)) + (1 : Int32))) (own_g H1 (((2 : Int32) * ii) + (1 : Int32)))))]))
          by_cases hc49 : (fP D (own_g H1 ((((2 : Int32) * ii) + (1 : Int32)) + (1 : Int32))) (own_g H1 (((2 : Int32) * ii) + (1 : Int32)))) = (0 : Int32)
          · refine own_by (u' := T46.setTop (mkF m 58 #[.val (.ref (n0 + 3)), .val (.int ii), .val (.int (own_g H (0 : Int32))), .val (.int (((2 : Int32) * ii) + (1 : Int32)))] [])) (fun _ k => XS.ifYes A47.here hx rfl (pc0 := 52) (pc' := 58) rfl (own_db hby d_prog_64_method_10_52) rfl ((if0 _ _).trans (teq hc49).1) (by decide) (by decide) k) ?_
            exact J12 _ (((2 : Int32) * ii) + (1 : Int32)) (A47) (own_chv hi hs hc9)
          · refine own_by (u' := T46.setTop (mkF m 55 #[.val (.ref (n0 + 3)), .val (.int ii), .val (.int (own_g H (0 : Int32))), .val (.int (((2 : Int32) * ii) + (1 : Int32)))] [])) (fun _ k => XS.ifNo A47.here hx rfl (own_db hby d_prog_64_method_10_52) rfl ((if0 _ _).trans (feq hc49).1) k) ?_
            refine own_by (u' := T46.setTop (mkF m 58 #[.val (.ref (n0 + 3)), .val (.int ii), .val (.int (own_g H (0 : Int32))), .val (.int ((((2 : Int32) * ii) + (1 : Int32)) + (1 : Int32)))] [])) (fun _ k => XS.iinc A47.here hx rfl (own_db hby d_prog_64_method_10_55) rfl (l' := #[.val (.ref (n0 + 3)), .val (.int ii), .val (.int (own_g H (0 : Int32))), .val (.int ((((2 : Int32) * ii) + (1 : Int32)) + (1 : Int32)))]) rfl k) ?_
            exact J12 _ ((((2 : Int32) * ii) + (1 : Int32)) + (1 : Int32)) (A47) (own_chv1 hi hs hc9 hc38)
        · refine own_by (u' := T10.setTop (mkF m 58 #[.val (.ref (n0 + 3)), .val (.int ii), .val (.int (own_g H (0 : Int32))), .val (.int (((2 : Int32) * ii) + (1 : Int32)))] [])) (fun _ k => XS.icmpYes A11.here hx rfl (pc0 := 31) (pc' := 58) rfl (own_db hby d_prog_64_method_10_31) rfl (flt hc38).2.1 (by decide) (by decide) k) ?_
          exact J12 _ (((2 : Int32) * ii) + (1 : Int32)) (A11) (own_chv hi hs hc9)
      · refine own_by (u' := T7.setTop (mkF m 21 #[.val (.ref (n0 + 3)), .val (.int ii), .val (.int (own_g H (0 : Int32))), .val (.int (((2 : Int32) * ii) + (1 : Int32)))] [])) (fun _ k => XS.icmpNo A8.here hx rfl (own_db hby d_prog_64_method_10_18) rfl (flt hc9).1 k) ?_
        refine own_by (u' := T7.setTop (mkF m 91 #[.val (.ref (n0 + 3)), .val (.int ii), .val (.int (own_g H (0 : Int32))), .val (.int (((2 : Int32) * ii) + (1 : Int32)))] [])) (fun _ k => XS.goto A8.here hx rfl (pc0 := 21) (pc' := 91) rfl (own_db hby d_prog_64_method_10_21) (by decide) (by decide) k) ?_
        refine own_by (u' := T7.setTop (mkF m 92 #[.val (.ref (n0 + 3)), .val (.int ii), .val (.int (own_g H (0 : Int32))), .val (.int (((2 : Int32) * ii) + (1 : Int32)))] [(.ref (n0 + 3))])) (fun _ k => XS.aloadN A8.here hx rfl (own_db hby d_prog_64_method_10_91) rfl rfl k) ?_
        refine own_by (u' := T7.setTop (mkF m 93 #[.val (.ref (n0 + 3)), .val (.int ii), .val (.int (own_g H (0 : Int32))), .val (.int (((2 : Int32) * ii) + (1 : Int32)))] [(.int (own_g H (0 : Int32))), (.ref (n0 + 3))])) (fun _ k => XS.iloadN A8.here hx rfl (own_db hby d_prog_64_method_10_92) rfl k) ?_
        refine own_by (u' := T7.setTop (mkF m 94 #[.val (.ref (n0 + 3)), .val (.int ii), .val (.int (own_g H (0 : Int32))), .val (.int (((2 : Int32) * ii) + (1 : Int32)))] [(.int ii), (.int (own_g H (0 : Int32))), (.ref (n0 + 3))])) (fun _ k => XS.iloadN A8.here hx rfl (own_db hby d_prog_64_method_10_93) rfl k) ?_
        refine own_callP (y := (⟨"com/example/strandwise/strandwise/network/VertexHeap", "place", "(II)V"⟩ : MethodName)) (rest := []) A8 hx hZ hown (hw _ (List.mem_of_getElem? (i := 57) rfl)) (hw _ (List.mem_of_getElem? (i := 59) rfl)) (hw _ (List.mem_of_getElem? (i := 17) rfl)) (hw _ (List.mem_of_getElem? (i := 58) rfl)) (hw _ (List.mem_of_getElem? (i := 18) rfl)) (hw _ (List.mem_of_getElem? (i := 60) rfl)) (by decide) (i := 3) rfl (gL l Z a0 hw n0 D S H1 Q1 R rc sz (own_g H (0 : Int32)) ii ok1.1 ok1.2.1 (own_okv ok own_vt0) hi) (by rw [hml]; rfl) [(.int (own_g H (0 : Int32))), (.int ii)] rfl rfl pd__II_V rfl (W := 0) (by show 2 * 0 + _ ≤ _; exact Nat.le_of_eq rfl) (own_db hby d_prog_64_method_10_94) (by decide) (by decide) (by decide) (by decide) ?_
        intro v50 i51 T53 hq52 A54
        obtain ⟨rfl, he55⟩ := hq52
        rw [he55] at A54
        replace A54 : own_at p l e _ s m _ below meth c n0 T53 0 0 [(own_obj Z "com/example/strandwise/strandwise/network/SearchState" ns_SearchState [(.ref (n0 + 1)), (.ref (n0 + 2)), (.ref (n0 + 3)), (.ref (n0 + 6)), (.int rc)]), (own_la Z D), (own_ia Z .byte S), (own_obj Z "com/example/strandwise/strandwise/network/VertexHeap" ns_VertexHeap [(.ref (n0 + 1)), (.ref (n0 + 4)), (.ref (n0 + 5)), (.int sz)]), (own_ia Z .int (H1.set ii.toNatClampNeg (own_g H (0 : Int32)))), (own_ia Z .int (Q1.set (own_g H (0 : Int32)).toNatClampNeg ii)), (own_ia Z .int R)] := A54
        show own_go _ _ _ _ _ _ _ (T53.setTop (mkF m 97 #[.val (.ref (n0 + 3)), .val (.int ii), .val (.int (own_g H (0 : Int32))), .val (.int (((2 : Int32) * ii) + (1 : Int32)))] []))
        exact own_retV A54 hx hlk hret (own_db hby d_prog_64_method_10_97) (by decide) (by decide) ⟨rfl, _, _, own_okP ok1 (own_okv ok own_vt0) hi (fun _ => hpv), rfl⟩
  exact lp3 (3) _ (0 : Int32) (.unset) (H) (Q) A2 (Or.inl rfl) (by decide) own_vt0 ok
theorem d_prog_64_method_3_0 : decode prog_64_method_3_code 0 = .ok (.aload_n 0, 1) := by decide +kernel
theorem d_prog_64_method_3_1 : decode prog_64_method_3_code 1 = .ok (.getfield 13, 3) := by decide +kernel
theorem d_prog_64_method_3_4 : decode prog_64_method_3_code 4 = .ok (.aload_n 0, 1) := by decide +kernel
theorem d_prog_64_method_3_5 : decode prog_64_method_3_code 5 = .ok (.getfield 20, 3) := by decide +kernel
theorem d_prog_64_method_3_8 : decode prog_64_method_3_code 8 = .ok (.iload_n 1, 1) := by decide +kernel
theorem d_prog_64_method_3_9 : decode prog_64_method_3_code 9 = .ok (.iastore, 1) := by decide +kernel
theorem d_prog_64_method_3_10 : decode prog_64_method_3_code 10 = .ok (.aload_n 0, 1) := by decide +kernel
theorem d_prog_64_method_3_11 : decode prog_64_method_3_code 11 = .ok (.getfield 17, 3) := by decide +kernel
theorem d_prog_64_method_3_14 : decode prog_64_method_3_code 14 = .ok (.iload_n 1, 1) := by decide +kernel
theorem d_prog_64_method_3_15 : decode prog_64_method_3_code 15 = .ok (.aload_n 0, 1) := by decide +kernel
theorem d_prog_64_method_3_16 : decode prog_64_method_3_code 16 = .ok (.getfield 20, 3) := by decide +kernel
theorem d_prog_64_method_3_19 : decode prog_64_method_3_code 19 = .ok (.iastore, 1) := by decide +kernel
theorem d_prog_64_method_3_20 : decode prog_64_method_3_code 20 = .ok (.aload_n 0, 1) := by decide +kernel
theorem d_prog_64_method_3_21 : decode prog_64_method_3_code 21 = .ok (.dup, 1) := by decide +kernel
theorem d_prog_64_method_3_22 : decode prog_64_method_3_code 22 = .ok (.getfield 20, 3) := by decide +kernel
theorem d_prog_64_method_3_25 : decode prog_64_method_3_code 25 = .ok (.iconst 1, 1) := by decide +kernel
theorem d_prog_64_method_3_26 : decode prog_64_method_3_code 26 = .ok (.iadd, 1) := by decide +kernel
theorem d_prog_64_method_3_27 : decode prog_64_method_3_code 27 = .ok (.putfield 20, 3) := by decide +kernel
theorem d_prog_64_method_3_30 : decode prog_64_method_3_code 30 = .ok (.aload_n 0, 1) := by decide +kernel
theorem d_prog_64_method_3_31 : decode prog_64_method_3_code 31 = .ok (.aload_n 0, 1) := by decide +kernel
theorem d_prog_64_method_3_32 : decode prog_64_method_3_code 32 = .ok (.getfield 20, 3) := by decide +kernel
theorem d_prog_64_method_3_35 : decode prog_64_method_3_code 35 = .ok (.iconst 1, 1) := by decide +kernel
theorem d_prog_64_method_3_36 : decode prog_64_method_3_code 36 = .ok (.isub, 1) := by decide +kernel
theorem d_prog_64_method_3_37 : decode prog_64_method_3_code 37 = .ok (.invokevirtual 24, 3) := by decide +kernel
theorem pd__I_V : parseMethodDescriptor "(I)V" = some ⟨[.int], none⟩ := by decide +kernel
theorem d_prog_64_method_3_40 : decode prog_64_method_3_code 40 = .ok (.return_, 1) := by decide +kernel
theorem pf_gA : plainFor (⟨"com/example/strandwise/strandwise/network/VertexHeap", "add", "(I)V"⟩ : MethodName) = true := by first | exact plainFor_of_name (by first | (simp [plainName, overriddenIn]; done) | decide +kernel) | decide +kernel
theorem ef_gA (m : MethodId) (n0 : Nat) (vx : Int32) : entryFrame m #[(.ref (n0 + 3)), (.int vx)] 2 = (mkF m 0 #[.val (.ref (n0 + 3)), .val (.int vx)] []) := by first | (simp [entryFrame, mkF, argsToLocals, Value.category]; done) | rfl
set_option maxRecDepth 65536 in
set_option maxHeartbeats 40000000 in
theorem gA (l : Launch) (Z : State) (a0 : Array Value) (hw : ∀ d ∈ tables_1, d.before a0 Z = true) (n0 : Nat) (D : List Int64) (S : List Int32) (H : List Int32) (Q : List Int32) (R : List Int32) (rc : Int32) (sz : Int32) (vx : Int32) (Pr : Int32 → Prop) (hD : D.length = 3) (ok : own_ok Pr sz.toInt H Q) (hsz : own_vt sz) (hv : own_vt vx) (hp : Pr vx) :
    own_met l Z n0 (⟨"com/example/strandwise/strandwise/network/VertexHeap", "add", "(I)V"⟩ : MethodName) prog_64_method_3_code 2 none ({ frames := 2, cells := 0, slots := 0, locals := 29 } : Room) #[(.ref (n0 + 3)), (.int vx)] [(own_obj Z "com/example/strandwise/strandwise/network/SearchState" ns_SearchState [(.ref (n0 + 1)), (.ref (n0 + 2)), (.ref (n0 + 3)), (.ref (n0 + 6)), (.int rc)]), (own_la Z D), (own_ia Z .byte S), (own_obj Z "com/example/strandwise/strandwise/network/VertexHeap" ns_VertexHeap [(.ref (n0 + 1)), (.ref (n0 + 4)), (.ref (n0 + 5)), (.int sz)]), (own_ia Z .int H), (own_ia Z .int Q), (own_ia Z .int R)] (fun v its' => v = none ∧ ∃ H' Q', own_ok Pr (sz.toInt + 1) H' Q' ∧ its' = [(own_obj Z "com/example/strandwise/strandwise/network/SearchState" ns_SearchState [(.ref (n0 + 1)), (.ref (n0 + 2)), (.ref (n0 + 3)), (.ref (n0 + 6)), (.int rc)]), (own_la Z D), (own_ia Z .byte S), (own_obj Z "com/example/strandwise/strandwise/network/VertexHeap" ns_VertexHeap [(.ref (n0 + 1)), (.ref (n0 + 4)), (.ref (n0 + 5)), (.int (sz + (1 : Int32)))]), (own_ia Z .int H'), (own_ia Z .int Q'), (own_ia Z .int R)]) := by
  refine own_met.of pf_gA ?_
  intro p e s m below meth c T0 hx hby hml hret hlk hZ hown hnm A0
  replace hown : s.vm.findClass "com/example/strandwise/strandwise/network/VertexHeap" = some m.cls := hown
  replace hml : c.maxLocals = 2 := hml
  rw [ef_gA m n0 vx]
  show own_go _ _ _ _ _ _ _ (T0.setTop (mkF m 0 #[.val (.ref (n0 + 3)), .val (.int vx)] []))
  refine own_by (u' := T0.setTop (mkF m 1 #[.val (.ref (n0 + 3)), .val (.int vx)] [(.ref (n0 + 3))])) (fun _ k => XS.aloadN A0.here hx rfl (own_db hby d_prog_64_method_3_0) rfl rfl k) ?_
  refine own_getF A0 hx hZ hown (hw _ (List.mem_of_getElem? (i := 26) rfl)) (i := 3) rfl 1 rfl rfl (own_db hby d_prog_64_method_3_1) ?_
  intro T1 A2
  show own_go _ _ _ _ _ _ _ (T1.setTop (mkF m 4 #[.val (.ref (n0 + 3)), .val (.int vx)] [(.ref (n0 + 4))]))
  refine own_by (u' := T1.setTop (mkF m 5 #[.val (.ref (n0 + 3)), .val (.int vx)] [(.ref (n0 + 3)), (.ref (n0 + 4))])) (fun _ k => XS.aloadN A2.here hx rfl (own_db hby d_prog_64_method_3_4) rfl rfl k) ?_
  refine own_getF A2 hx hZ hown (hw _ (List.mem_of_getElem? (i := 51) rfl)) (i := 3) rfl 3 rfl rfl (own_db hby d_prog_64_method_3_5) ?_
  intro T3 A4
  show own_go _ _ _ _ _ _ _ (T3.setTop (mkF m 8 #[.val (.ref (n0 + 3)), .val (.int vx)] [(.int sz), (.ref (n0 + 4))]))
  refine own_by (u' := T3.setTop (mkF m 9 #[.val (.ref (n0 + 3)), .val (.int vx)] [(.int vx), (.int sz), (.ref (n0 + 4))])) (fun _ k => XS.iloadN A4.here hx rfl (own_db hby d_prog_64_method_3_8) rfl k) ?_
  refine own_iastore A4 hx hZ (i := 4) rfl (sz.toNatClampNeg) (own_ix3 ok.1 hsz) (own_db hby d_prog_64_method_3_9) (its2 := [(own_obj Z "com/example/strandwise/strandwise/network/SearchState" ns_SearchState [(.ref (n0 + 1)), (.ref (n0 + 2)), (.ref (n0 + 3)), (.ref (n0 + 6)), (.int rc)]), (own_la Z D), (own_ia Z .byte S), (own_obj Z "com/example/strandwise/strandwise/network/VertexHeap" ns_VertexHeap [(.ref (n0 + 1)), (.ref (n0 + 4)), (.ref (n0 + 5)), (.int sz)]), (own_ia Z .int (H.set sz.toNatClampNeg vx)), (own_ia Z .int Q), (own_ia Z .int R)]) rfl ?_
  intro T5 A6
  show own_go _ _ _ _ _ _ _ (T5.setTop (mkF m 10 #[.val (.ref (n0 + 3)), .val (.int vx)] []))
  refine own_by (u' := T5.setTop (mkF m 11 #[.val (.ref (n0 + 3)), .val (.int vx)] [(.ref (n0 + 3))])) (fun _ k => XS.aloadN A6.here hx rfl (own_db hby d_prog_64_method_3_10) rfl rfl k) ?_
  refine own_getF A6 hx hZ hown (hw _ (List.mem_of_getElem? (i := 28) rfl)) (i := 3) rfl 2 rfl rfl (own_db hby d_prog_64_method_3_11) ?_
  intro T7 A8
  show own_go _ _ _ _ _ _ _ (T7.setTop (mkF m 14 #[.val (.ref (n0 + 3)), .val (.int vx)] [(.ref (n0 + 5))]))
  refine own_by (u' := T7.setTop (mkF m 15 #[.val (.ref (n0 + 3)), .val (.int vx)] [(.int vx), (.ref (n0 + 5))])) (fun _ k => XS.iloadN A8.here hx rfl (own_db hby d_prog_64_method_3_14) rfl k) ?_
  refine own_by (u' := T7.setTop (mkF m 16 #[.val (.ref (n0 + 3)), .val (.int vx)] [(.ref (n0 + 3)), (.int vx), (.ref (n0 + 5))])) (fun _ k => XS.aloadN A8.here hx rfl (own_db hby d_prog_64_method_3_15) rfl rfl k) ?_
  refine own_getF A8 hx hZ hown (hw _ (List.mem_of_getElem? (i := 51) rfl)) (i := 3) rfl 3 rfl rfl (own_db hby d_prog_64_method_3_16) ?_
  intro T9 A10
  show own_go _ _ _ _ _ _ _ (T9.setTop (mkF m 19 #[.val (.ref (n0 + 3)), .val (.int vx)] [(.int sz), (.int vx), (.ref (n0 + 5))]))
  refine own_iastore A10 hx hZ (i := 5) rfl (vx.toNatClampNeg) (own_ix3 ok.2.1 hv) (own_db hby d_prog_64_method_3_19) (its2 := [(own_obj Z "com/example/strandwise/strandwise/network/SearchState" ns_SearchState [(.ref (n0 + 1)), (.ref (n0 + 2)), (.ref (n0 + 3)), (.ref (n0 + 6)), (.int rc)]), (own_la Z D), (own_ia Z .byte S), (own_obj Z "com/example/strandwise/strandwise/network/VertexHeap" ns_VertexHeap [(.ref (n0 + 1)), (.ref (n0 + 4)), (.ref (n0 + 5)), (.int sz)]), (own_ia Z .int (H.set sz.toNatClampNeg vx)), (own_ia Z .int (Q.set vx.toNatClampNeg sz)), (own_ia Z .int R)]) rfl ?_
  intro T11 A12
  show own_go _ _ _ _ _ _ _ (T11.setTop (mkF m 20 #[.val (.ref (n0 + 3)), .val (.int vx)] []))
  refine own_by (u' := T11.setTop (mkF m 21 #[.val (.ref (n0 + 3)), .val (.int vx)] [(.ref (n0 + 3))])) (fun _ k => XS.aloadN A12.here hx rfl (own_db hby d_prog_64_method_3_20) rfl rfl k) ?_
  refine own_by (u' := T11.setTop (mkF m 22 #[.val (.ref (n0 + 3)), .val (.int vx)] [(.ref (n0 + 3)), (.ref (n0 + 3))])) (fun _ k => XS.dup A12.here hx rfl (own_db hby d_prog_64_method_3_21) rfl rfl k) ?_
  refine own_getF A12 hx hZ hown (hw _ (List.mem_of_getElem? (i := 51) rfl)) (i := 3) rfl 3 rfl rfl (own_db hby d_prog_64_method_3_22) ?_
  intro T13 A14
  show own_go _ _ _ _ _ _ _ (T13.setTop (mkF m 25 #[.val (.ref (n0 + 3)), .val (.int vx)] [(.int sz), (.ref (n0 + 3))]))
  refine own_by (u' := T13.setTop (mkF m 26 #[.val (.ref (n0 + 3)), .val (.int vx)] [(.int (1 : Int32)), (.int sz), (.ref (n0 + 3))])) (fun _ k => XS.iconst A14.here hx rfl (own_db hby d_prog_64_method_3_25) k) ?_
  refine own_by (u' := T13.setTop (mkF m 27 #[.val (.ref (n0 + 3)), .val (.int vx)] [(.int (sz + (1 : Int32))), (.ref (n0 + 3))])) (fun _ k => XS.iadd A14.here hx rfl (own_db hby d_prog_64_method_3_26) rfl k) ?_
  refine own_putF A14 hx hZ hown (hw _ (List.mem_of_getElem? (i := 51) rfl)) (i := 3) rfl 3 rfl (v' := (.int (sz + (1 : Int32)))) rfl (ap_ns_VertexHeap hw) (Or.inl (hw _ (List.mem_of_getElem? (i := 52) rfl))) (hw _ (List.mem_of_getElem? (i := 17) rfl)) (ty := .int) (by decide) rfl rfl (own_db hby d_prog_64_method_3_27) (its2 := [(own_obj Z "com/example/strandwise/strandwise/network/SearchState" ns_SearchState [(.ref (n0 + 1)), (.ref (n0 + 2)), (.ref (n0 + 3)), (.ref (n0 + 6)), (.int rc)]), (own_la Z D), (own_ia Z .byte S), (own_obj Z "com/example/strandwise/strandwise/network/VertexHeap" ns_VertexHeap [(.ref (n0 + 1)), (.ref (n0 + 4)), (.ref (n0 + 5)), (.int (sz + (1 : Int32)))]), (own_ia Z .int (H.set sz.toNatClampNeg vx)), (own_ia Z .int (Q.set vx.toNatClampNeg sz)), (own_ia Z .int R)]) rfl ?_
  intro T15 A16
  show own_go _ _ _ _ _ _ _ (T15.setTop (mkF m 30 #[.val (.ref (n0 + 3)), .val (.int vx)] []))
  refine own_by (u' := T15.setTop (mkF m 31 #[.val (.ref (n0 + 3)), .val (.int vx)] [(.ref (n0 + 3))])) (fun _ k => XS.aloadN A16.here hx rfl (own_db hby d_prog_64_method_3_30) rfl rfl k) ?_
  refine own_by (u' := T15.setTop (mkF m 32 #[.val (.ref (n0 + 3)), .val (.int vx)] [(.ref (n0 + 3)), (.ref (n0 + 3))])) (fun _ k => XS.aloadN A16.here hx rfl (own_db hby d_prog_64_method_3_31) rfl rfl k) ?_
  refine own_getF A16 hx hZ hown (hw _ (List.mem_of_getElem? (i := 51) rfl)) (i := 3) rfl 3 rfl rfl (own_db hby d_prog_64_method_3_32) ?_
  intro T17 A18
  show own_go _ _ _ _ _ _ _ (T17.setTop (mkF m 35 #[.val (.ref (n0 + 3)), .val (.int vx)] [(.int (sz + (1 : Int32))), (.ref (n0 + 3))]))
  refine own_by (u' := T17.setTop (mkF m 36 #[.val (.ref (n0 + 3)), .val (.int vx)] [(.int (1 : Int32)), (.int (sz + (1 : Int32))), (.ref (n0 + 3))])) (fun _ k => XS.iconst A18.here hx rfl (own_db hby d_prog_64_method_3_35) k) ?_
  refine own_by (u' := T17.setTop (mkF m 37 #[.val (.ref (n0 + 3)), .val (.int vx)] [(.int ((sz + (1 : Int32)) - (1 : Int32))), (.ref (n0 + 3))])) (fun _ k => XS.isub A18.here hx rfl (own_db hby d_prog_64_method_3_36) rfl k) ?_
  rw [show (sz + (1 : Int32)) - (1 : Int32) = sz from Int32.add_sub_cancel ..]
  show own_go _ _ _ _ _ _ _ (T17.setTop (mkF m 37 #[.val (.ref (n0 + 3)), .val (.int vx)] [(.int sz), (.ref (n0 + 3))]))
  refine own_callP (y := (⟨"com/example/strandwise/strandwise/network/VertexHeap", "siftUp", "(I)V"⟩ : MethodName)) (rest := []) A18 hx hZ hown (hw _ (List.mem_of_getElem? (i := 53) rfl)) (hw _ (List.mem_of_getElem? (i := 55) rfl)) (hw _ (List.mem_of_getElem? (i := 17) rfl)) (hw _ (List.mem_of_getElem? (i := 54) rfl)) (hw _ (List.mem_of_getElem? (i := 18) rfl)) (hw _ (List.mem_of_getElem? (i := 56) rfl)) (by decide) (i := 3) rfl (gUp l Z a0 hw n0 D S (H.set sz.toNatClampNeg vx) (Q.set vx.toNatClampNeg sz) R rc (sz + (1 : Int32)) sz Pr (sz.toInt + 1) hD (own_okA ok hsz hv hp).1 hsz (own_okA ok hsz hv hp).2) (by rw [hml]; rfl) [(.int sz)] rfl rfl pd__I_V rfl (W := 0) (by show 2 * 0 + _ ≤ _; exact Nat.le_of_eq rfl) (own_db hby d_prog_64_method_3_37) (by decide) (by decide) (by decide) (by decide) ?_
  intro v22 i23 T25 hq24 A26
  obtain ⟨rfl, H19, Q20, ok21, rfl⟩ := hq24
  replace A26 : own_at p l e _ s m _ below meth c n0 T25 0 0 [(own_obj Z "com/example/strandwise/strandwise/network/SearchState" ns_SearchState [(.ref (n0 + 1)), (.ref (n0 + 2)), (.ref (n0 + 3)), (.ref (n0 + 6)), (.int rc)]), (own_la Z D), (own_ia Z .byte S), (own_obj Z "com/example/strandwise/strandwise/network/VertexHeap" ns_VertexHeap [(.ref (n0 + 1)), (.ref (n0 + 4)), (.ref (n0 + 5)), (.int (sz + (1 : Int32)))]), (own_ia Z .int H19), (own_ia Z .int Q20), (own_ia Z .int R)] := A26
  show own_go _ _ _ _ _ _ _ (T25.setTop (mkF m 40 #[.val (.ref (n0 + 3)), .val (.int vx)] []))
  exact own_retV A26 hx hlk hret (own_db hby d_prog_64_method_3_40) (by decide) (by decide) ⟨rfl, _, _, ok21, rfl⟩
theorem d_prog_64_method_4_0 : decode prog_64_method_4_code 0 = .ok (.aload_n 0, 1) := by decide +kernel
theorem d_prog_64_method_4_1 : decode prog_64_method_4_code 1 = .ok (.aload_n 0, 1) := by decide +kernel
theorem d_prog_64_method_4_2 : decode prog_64_method_4_code 2 = .ok (.getfield 17, 3) := by decide +kernel
theorem d_prog_64_method_4_5 : decode prog_64_method_4_code 5 = .ok (.iload_n 1, 1) := by decide +kernel
theorem d_prog_64_method_4_6 : decode prog_64_method_4_code 6 = .ok (.iaload, 1) := by decide +kernel
theorem d_prog_64_method_4_7 : decode prog_64_method_4_code 7 = .ok (.invokevirtual 24, 3) := by decide +kernel
theorem d_prog_64_method_4_10 : decode prog_64_method_4_code 10 = .ok (.return_, 1) := by decide +kernel
theorem pf_gW : plainFor (⟨"com/example/strandwise/strandwise/network/VertexHeap", "keyLowered", "(I)V"⟩ : MethodName) = true := by first | exact plainFor_of_name (by first | (simp [plainName, overriddenIn]; done) | decide +kernel) | decide +kernel
theorem ef_gW (m : MethodId) (n0 : Nat) (vx : Int32) : entryFrame m #[(.ref (n0 + 3)), (.int vx)] 2 = (mkF m 0 #[.val (.ref (n0 + 3)), .val (.int vx)] []) := by first | (simp [entryFrame, mkF, argsToLocals, Value.category]; done) | rfl
set_option maxRecDepth 65536 in
set_option maxHeartbeats 40000000 in
theorem gW (l : Launch) (Z : State) (a0 : Array Value) (hw : ∀ d ∈ tables_1, d.before a0 Z = true) (n0 : Nat) (D : List Int64) (S : List Int32) (H : List Int32) (Q : List Int32) (R : List Int32) (rc : Int32) (sz : Int32) (vx : Int32) (Pr : Int32 → Prop) (n : Int) (hD : D.length = 3) (ok : own_ok Pr n H Q) (hv : own_vt vx) :
    own_met l Z n0 (⟨"com/example/strandwise/strandwise/network/VertexHeap", "keyLowered", "(I)V"⟩ : MethodName) prog_64_method_4_code 2 none ({ frames := 2, cells := 0, slots := 0, locals := 29 } : Room) #[(.ref (n0 + 3)), (.int vx)] [(own_obj Z "com/example/strandwise/strandwise/network/SearchState" ns_SearchState [(.ref (n0 + 1)), (.ref (n0 + 2)), (.ref (n0 + 3)), (.ref (n0 + 6)), (.int rc)]), (own_la Z D), (own_ia Z .byte S), (own_obj Z "com/example/strandwise/strandwise/network/VertexHeap" ns_VertexHeap [(.ref (n0 + 1)), (.ref (n0 + 4)), (.ref (n0 + 5)), (.int sz)]), (own_ia Z .int H), (own_ia Z .int Q), (own_ia Z .int R)] (fun v its' => v = none ∧ ∃ H' Q', own_ok (fun _ => True) 0 H' Q' ∧ its' = [(own_obj Z "com/example/strandwise/strandwise/network/SearchState" ns_SearchState [(.ref (n0 + 1)), (.ref (n0 + 2)), (.ref (n0 + 3)), (.ref (n0 + 6)), (.int rc)]), (own_la Z D), (own_ia Z .byte S), (own_obj Z "com/example/strandwise/strandwise/network/VertexHeap" ns_VertexHeap [(.ref (n0 + 1)), (.ref (n0 + 4)), (.ref (n0 + 5)), (.int sz)]), (own_ia Z .int H'), (own_ia Z .int Q'), (own_ia Z .int R)]) := by
  refine own_met.of pf_gW ?_
  intro p e s m below meth c T0 hx hby hml hret hlk hZ hown hnm A0
  replace hown : s.vm.findClass "com/example/strandwise/strandwise/network/VertexHeap" = some m.cls := hown
  replace hml : c.maxLocals = 2 := hml
  rw [ef_gW m n0 vx]
  show own_go _ _ _ _ _ _ _ (T0.setTop (mkF m 0 #[.val (.ref (n0 + 3)), .val (.int vx)] []))
  refine own_by (u' := T0.setTop (mkF m 1 #[.val (.ref (n0 + 3)), .val (.int vx)] [(.ref (n0 + 3))])) (fun _ k => XS.aloadN A0.here hx rfl (own_db hby d_prog_64_method_4_0) rfl rfl k) ?_
  refine own_by (u' := T0.setTop (mkF m 2 #[.val (.ref (n0 + 3)), .val (.int vx)] [(.ref (n0 + 3)), (.ref (n0 + 3))])) (fun _ k => XS.aloadN A0.here hx rfl (own_db hby d_prog_64_method_4_1) rfl rfl k) ?_
  refine own_getF A0 hx hZ hown (hw _ (List.mem_of_getElem? (i := 28) rfl)) (i := 3) rfl 2 rfl rfl (own_db hby d_prog_64_method_4_2) ?_
  intro T1 A2
  show own_go _ _ _ _ _ _ _ (T1.setTop (mkF m 5 #[.val (.ref (n0 + 3)), .val (.int vx)] [(.ref (n0 + 5)), (.ref (n0 + 3))]))
  refine own_by (u' := T1.setTop (mkF m 6 #[.val (.ref (n0 + 3)), .val (.int vx)] [(.int vx), (.ref (n0 + 5)), (.ref (n0 + 3))])) (fun _ k => XS.iloadN A2.here hx rfl (own_db hby d_prog_64_method_4_5) rfl k) ?_
  refine own_iaload A2 hx hZ (i := 5) rfl (x := (own_g Q vx)) (own_rd ok.2.1 hv.1 hv.2) (own_db hby d_prog_64_method_4_6) ?_
  show own_go _ _ _ _ _ _ _ (T1.setTop (mkF m 7 #[.val (.ref (n0 + 3)), .val (.int vx)] [(.int (own_g Q vx)), (.ref (n0 + 3))]))
  refine own_callP (y := (⟨"com/example/strandwise/strandwise/network/VertexHeap", "siftUp", "(I)V"⟩ : MethodName)) (rest := []) A2 hx hZ hown (hw _ (List.mem_of_getElem? (i := 53) rfl)) (hw _ (List.mem_of_getElem? (i := 55) rfl)) (hw _ (List.mem_of_getElem? (i := 17) rfl)) (hw _ (List.mem_of_getElem? (i := 54) rfl)) (hw _ (List.mem_of_getElem? (i := 18) rfl)) (hw _ (List.mem_of_getElem? (i := 56) rfl)) (by decide) (i := 3) rfl (gUp l Z a0 hw n0 D S H Q R rc sz (own_g Q vx) (fun _ => True) 0 hD (own_okT ok) (own_okq ok hv) trivial) (by rw [hml]; rfl) [(.int (own_g Q vx))] rfl rfl pd__I_V rfl (W := 0) (by show 2 * 0 + _ ≤ _; exact Nat.le_of_eq rfl) (own_db hby d_prog_64_method_4_7) (by decide) (by decide) (by decide) (by decide) ?_
  intro v6 i7 T9 hq8 A10
  obtain ⟨rfl, H3, Q4, ok5, rfl⟩ := hq8
  replace A10 : own_at p l e _ s m _ below meth c n0 T9 0 0 [(own_obj Z "com/example/strandwise/strandwise/network/SearchState" ns_SearchState [(.ref (n0 + 1)), (.ref (n0 + 2)), (.ref (n0 + 3)), (.ref (n0 + 6)), (.int rc)]), (own_la Z D), (own_ia Z .byte S), (own_obj Z "com/example/strandwise/strandwise/network/VertexHeap" ns_VertexHeap [(.ref (n0 + 1)), (.ref (n0 + 4)), (.ref (n0 + 5)), (.int sz)]), (own_ia Z .int H3), (own_ia Z .int Q4), (own_ia Z .int R)] := A10
  show own_go _ _ _ _ _ _ _ (T9.setTop (mkF m 10 #[.val (.ref (n0 + 3)), .val (.int vx)] []))
  exact own_retV A10 hx hlk hret (own_db hby d_prog_64_method_4_10) (by decide) (by decide) ⟨rfl, _, _, ok5, rfl⟩
theorem d_prog_64_method_6_0 : decode prog_64_method_6_code 0 = .ok (.aload_n 0, 1) := by decide +kernel
theorem d_prog_64_method_6_1 : decode prog_64_method_6_code 1 = .ok (.getfield 13, 3) := by decide +kernel
theorem d_prog_64_method_6_4 : decode prog_64_method_6_code 4 = .ok (.iconst 0, 1) := by decide +kernel
theorem d_prog_64_method_6_5 : decode prog_64_method_6_code 5 = .ok (.iaload, 1) := by decide +kernel
theorem d_prog_64_method_6_6 : decode prog_64_method_6_code 6 = .ok (.istore_n 1, 1) := by decide +kernel
theorem d_prog_64_method_6_7 : decode prog_64_method_6_code 7 = .ok (.aload_n 0, 1) := by decide +kernel
theorem d_prog_64_method_6_8 : decode prog_64_method_6_code 8 = .ok (.dup, 1) := by decide +kernel
theorem d_prog_64_method_6_9 : decode prog_64_method_6_code 9 = .ok (.getfield 20, 3) := by decide +kernel
theorem d_prog_64_method_6_12 : decode prog_64_method_6_code 12 = .ok (.iconst 1, 1) := by decide +kernel
theorem d_prog_64_method_6_13 : decode prog_64_method_6_code 13 = .ok (.isub, 1) := by decide +kernel
theorem d_prog_64_method_6_14 : decode prog_64_method_6_code 14 = .ok (.putfield 20, 3) := by decide +kernel
theorem d_prog_64_method_6_17 : decode prog_64_method_6_code 17 = .ok (.aload_n 0, 1) := by decide +kernel
theorem d_prog_64_method_6_18 : decode prog_64_method_6_code 18 = .ok (.getfield 20, 3) := by decide +kernel
theorem d_prog_64_method_6_21 : decode prog_64_method_6_code 21 = .ok (.ifCond .le 35, 3) := by decide +kernel
theorem d_prog_64_method_6_24 : decode prog_64_method_6_code 24 = .ok (.aload_n 0, 1) := by decide +kernel
theorem d_prog_64_method_6_25 : decode prog_64_method_6_code 25 = .ok (.getfield 13, 3) := by decide +kernel
theorem d_prog_64_method_6_28 : decode prog_64_method_6_code 28 = .ok (.iconst 0, 1) := by decide +kernel
theorem d_prog_64_method_6_29 : decode prog_64_method_6_code 29 = .ok (.aload_n 0, 1) := by decide +kernel
theorem d_prog_64_method_6_30 : decode prog_64_method_6_code 30 = .ok (.getfield 13, 3) := by decide +kernel
theorem d_prog_64_method_6_33 : decode prog_64_method_6_code 33 = .ok (.aload_n 0, 1) := by decide +kernel
theorem d_prog_64_method_6_34 : decode prog_64_method_6_code 34 = .ok (.getfield 20, 3) := by decide +kernel
theorem d_prog_64_method_6_37 : decode prog_64_method_6_code 37 = .ok (.iaload, 1) := by decide +kernel
theorem d_prog_64_method_6_38 : decode prog_64_method_6_code 38 = .ok (.iastore, 1) := by decide +kernel
theorem d_prog_64_method_6_39 : decode prog_64_method_6_code 39 = .ok (.aload_n 0, 1) := by decide +kernel
theorem d_prog_64_method_6_40 : decode prog_64_method_6_code 40 = .ok (.getfield 17, 3) := by decide +kernel
theorem d_prog_64_method_6_43 : decode prog_64_method_6_code 43 = .ok (.aload_n 0, 1) := by decide +kernel
theorem d_prog_64_method_6_44 : decode prog_64_method_6_code 44 = .ok (.getfield 13, 3) := by decide +kernel
theorem d_prog_64_method_6_47 : decode prog_64_method_6_code 47 = .ok (.iconst 0, 1) := by decide +kernel
theorem d_prog_64_method_6_48 : decode prog_64_method_6_code 48 = .ok (.iaload, 1) := by decide +kernel
theorem d_prog_64_method_6_49 : decode prog_64_method_6_code 49 = .ok (.iconst 0, 1) := by decide +kernel
theorem d_prog_64_method_6_50 : decode prog_64_method_6_code 50 = .ok (.iastore, 1) := by decide +kernel
theorem d_prog_64_method_6_51 : decode prog_64_method_6_code 51 = .ok (.aload_n 0, 1) := by decide +kernel
theorem d_prog_64_method_6_52 : decode prog_64_method_6_code 52 = .ok (.iconst 0, 1) := by decide +kernel
theorem d_prog_64_method_6_53 : decode prog_64_method_6_code 53 = .ok (.invokevirtual 28, 3) := by decide +kernel
theorem d_prog_64_method_6_56 : decode prog_64_method_6_code 56 = .ok (.iload_n 1, 1) := by decide +kernel
theorem d_prog_64_method_6_57 : decode prog_64_method_6_code 57 = .ok (.ireturn, 1) := by decide +kernel
theorem pf_gRm : plainFor (⟨"com/example/strandwise/strandwise/network/VertexHeap", "removeFirst", "()I"⟩ : MethodName) = true := by first | exact plainFor_of_name (by first | (simp [plainName, overriddenIn]; done) | decide +kernel) | decide +kernel
theorem ef_gRm (m : MethodId) (n0 : Nat) : entryFrame m #[(.ref (n0 + 3))] 2 = (mkF m 0 #[.val (.ref (n0 + 3)), .unset] []) := by first | (simp [entryFrame, mkF, argsToLocals, Value.category]; done) | rfl
set_option maxRecDepth 65536 in
set_option maxHeartbeats 40000000 in
theorem gRm (l : Launch) (Z : State) (a0 : Array Value) (hw : ∀ d ∈ tables_1, d.before a0 Z = true) (n0 : Nat) (D : List Int64) (S : List Int32) (H : List Int32) (Q : List Int32) (R : List Int32) (rc : Int32) (sz : Int32) (Pr : Int32 → Prop) (hD : D.length = 3) (ok : own_ok Pr sz.toInt H Q) (hs : 1 ≤ sz.toInt ∧ sz.toInt ≤ 3) :
    own_met l Z n0 (⟨"com/example/strandwise/strandwise/network/VertexHeap", "removeFirst", "()I"⟩ : MethodName) prog_64_method_6_code 2 (some .int) ({ frames := 2, cells := 0, slots := 0, locals := 29 } : Room) #[(.ref (n0 + 3))] [(own_obj Z "com/example/strandwise/strandwise/network/SearchState" ns_SearchState [(.ref (n0 + 1)), (.ref (n0 + 2)), (.ref (n0 + 3)), (.ref (n0 + 6)), (.int rc)]), (own_la Z D), (own_ia Z .byte S), (own_obj Z "com/example/strandwise/strandwise/network/VertexHeap" ns_VertexHeap [(.ref (n0 + 1)), (.ref (n0 + 4)), (.ref (n0 + 5)), (.int sz)]), (own_ia Z .int H), (own_ia Z .int Q), (own_ia Z .int R)] (fun v its' => v = some (.int (own_g H (0 : Int32))) ∧ ∃ H' Q', own_ok Pr (sz - (1 : Int32)).toInt H' Q' ∧ its' = [(own_obj Z "com/example/strandwise/strandwise/network/SearchState" ns_SearchState [(.ref (n0 + 1)), (.ref (n0 + 2)), (.ref (n0 + 3)), (.ref (n0 + 6)), (.int rc)]), (own_la Z D), (own_ia Z .byte S), (own_obj Z "com/example/strandwise/strandwise/network/VertexHeap" ns_VertexHeap [(.ref (n0 + 1)), (.ref (n0 + 4)), (.ref (n0 + 5)), (.int (sz - (1 : Int32)))]), (own_ia Z .int H'), (own_ia Z .int Q'), (own_ia Z .int R)]) := by
  refine own_met.of pf_gRm ?_
  intro p e s m below meth c T0 hx hby hml hret hlk hZ hown hnm A0
  replace hown : s.vm.findClass "com/example/strandwise/strandwise/network/VertexHeap" = some m.cls := hown
  replace hml : c.maxLocals = 2 := hml
  rw [ef_gRm m n0]
  show own_go _ _ _ _ _ _ _ (T0.setTop (mkF m 0 #[.val (.ref (n0 + 3)), .unset] []))
  refine own_by (u' := T0.setTop (mkF m 1 #[.val (.ref (n0 + 3)), .unset] [(.ref (n0 + 3))])) (fun _ k => XS.aloadN A0.here hx rfl (own_db hby d_prog_64_method_6_0) rfl rfl k) ?_
  refine own_getF A0 hx hZ hown (hw _ (List.mem_of_getElem? (i := 26) rfl)) (i := 3) rfl 1 rfl rfl (own_db hby d_prog_64_method_6_1) ?_
  intro T1 A2
  show own_go _ _ _ _ _ _ _ (T1.setTop (mkF m 4 #[.val (.ref (n0 + 3)), .unset] [(.ref (n0 + 4))]))
  refine own_by (u' := T1.setTop (mkF m 5 #[.val (.ref (n0 + 3)), .unset] [(.int (0 : Int32)), (.ref (n0 + 4))])) (fun _ k => XS.iconst A2.here hx rfl (own_db hby d_prog_64_method_6_4) k) ?_
  refine own_iaload A2 hx hZ (i := 4) rfl (x := (own_g H (0 : Int32))) (own_rd ok.1 own_vt0.1 own_vt0.2) (own_db hby d_prog_64_method_6_5) ?_
  show own_go _ _ _ _ _ _ _ (T1.setTop (mkF m 6 #[.val (.ref (n0 + 3)), .unset] [(.int (own_g H (0 : Int32)))]))
  refine own_by (u' := T1.setTop (mkF m 7 #[.val (.ref (n0 + 3)), .val (.int (own_g H (0 : Int32)))] [])) (fun _ k => XS.istoreN A2.here hx rfl (own_db hby d_prog_64_method_6_6) rfl (l' := #[.val (.ref (n0 + 3)), .val (.int (own_g H (0 : Int32)))]) rfl k) ?_
  refine own_by (u' := T1.setTop (mkF m 8 #[.val (.ref (n0 + 3)), .val (.int (own_g H (0 : Int32)))] [(.ref (n0 + 3))])) (fun _ k => XS.aloadN A2.here hx rfl (own_db hby d_prog_64_method_6_7) rfl rfl k) ?_
  refine own_by (u' := T1.setTop (mkF m 9 #[.val (.ref (n0 + 3)), .val (.int (own_g H (0 : Int32)))] [(.ref (n0 + 3)), (.ref (n0 + 3))])) (fun _ k => XS.dup A2.here hx rfl (own_db hby d_prog_64_method_6_8) rfl rfl k) ?_
  refine own_getF A2 hx hZ hown (hw _ (List.mem_of_getElem? (i := 51) rfl)) (i := 3) rfl 3 rfl rfl (own_db hby d_prog_64_method_6_9) ?_
  intro T3 A4
  show own_go _ _ _ _ _ _ _ (T3.setTop (mkF m 12 #[.val (.ref (n0 + 3)), .val (.int (own_g H (0 : Int32)))] [(.int sz), (.ref (n0 + 3))]))
  refine own_by (u' := T3.setTop (mkF m 13 #[.val (.ref (n0 + 3)), .val (.int (own_g H (0 : Int32)))] [(.int (1 : Int32)), (.int sz), (.ref (n0 + 3))])) (fun _ k => XS.iconst A4.here hx rfl (own_db hby d_prog_64_method_6_12) k) ?_
  refine own_by (u' := T3.setTop (mkF m 14 #[.val (.ref (n0 + 3)), .val (.int (own_g H (0 : Int32)))] [(.int (sz - (1 : Int32))), (.ref (n0 + 3))])) (fun _ k => XS.isub A4.here hx rfl (own_db hby d_prog_64_method_6_13) rfl k) ?_
  refine own_putF A4 hx hZ hown (hw _ (List.mem_of_getElem? (i := 51) rfl)) (i := 3) rfl 3 rfl (v' := (.int (sz - (1 : Int32)))) rfl (ap_ns_VertexHeap hw) (Or.inl (hw _ (List.mem_of_getElem? (i := 52) rfl))) (hw _ (List.mem_of_getElem? (i := 17) rfl)) (ty := .int) (by decide) rfl rfl (own_db hby d_prog_64_method_6_14) (its2 := [(own_obj Z "com/example/strandwise/strandwise/network/SearchState" ns_SearchState [(.ref (n0 + 1)), (.ref (n0 + 2)), (.ref (n0 + 3)), (.ref (n0 + 6)), (.int rc)]), (own_la Z D), (own_ia Z .byte S), (own_obj Z "com/example/strandwise/strandwise/network/VertexHeap" ns_VertexHeap [(.ref (n0 + 1)), (.ref (n0 + 4)), (.ref (n0 + 5)), (.int (sz - (1 : Int32)))]), (own_ia Z .int H), (own_ia Z .int Q), (own_ia Z .int R)]) rfl ?_
  intro T5 A6
  show own_go _ _ _ _ _ _ _ (T5.setTop (mkF m 17 #[.val (.ref (n0 + 3)), .val (.int (own_g H (0 : Int32)))] []))
  refine own_by (u' := T5.setTop (mkF m 18 #[.val (.ref (n0 + 3)), .val (.int (own_g H (0 : Int32)))] [(.ref (n0 + 3))])) (fun _ k => XS.aloadN A6.here hx rfl (own_db hby d_prog_64_method_6_17) rfl rfl k) ?_
  refine own_getF A6 hx hZ hown (hw _ (List.mem_of_getElem? (i := 51) rfl)) (i := 3) rfl 3 rfl rfl (own_db hby d_prog_64_method_6_18) ?_
  intro T7 A8
  show own_go _ _ _ _ _ _ _ (T7.setTop (mkF m 21 #[.val (.ref (n0 + 3)), .val (.int (own_g H (0 : Int32)))] [(.int (sz - (1 : Int32)))]))
  by_cases hc9 : (0 : Int32) < (sz - (1 : Int32))
  · refine own_by (u' := T7.setTop (mkF m 24 #[.val (.ref (n0 + 3)), .val (.int (own_g H (0 : Int32)))] [])) (fun _ k => XS.ifNo A8.here hx rfl (own_db hby d_prog_64_method_6_21) rfl ((if0 _ _).trans (tlt hc9).2.2.2) k) ?_
    refine own_by (u' := T7.setTop (mkF m 25 #[.val (.ref (n0 + 3)), .val (.int (own_g H (0 : Int32)))] [(.ref (n0 + 3))])) (fun _ k => XS.aloadN A8.here hx rfl (own_db hby d_prog_64_method_6_24) rfl rfl k) ?_
    refine own_getF A8 hx hZ hown (hw _ (List.mem_of_getElem? (i := 26) rfl)) (i := 3) rfl 1 rfl rfl (own_db hby d_prog_64_method_6_25) ?_
    intro T10 A11
    show own_go _ _ _ _ _ _ _ (T10.setTop (mkF m 28 #[.val (.ref (n0 + 3)), .val (.int (own_g H (0 : Int32)))] [(.ref (n0 + 4))]))
    refine own_by (u' := T10.setTop (mkF m 29 #[.val (.ref (n0 + 3)), .val (.int (own_g H (0 : Int32)))] [(.int (0 : Int32)), (.ref (n0 + 4))])) (fun _ k => XS.iconst A11.here hx rfl (own_db hby d_prog_64_method_6_28) k) ?_
    refine own_by (u' := T10.setTop (mkF m 30 #[.val (.ref (n0 + 3)), .val (.int (own_g H (0 : Int32)))] [(.ref (n0 + 3)), (.int (0 : Int32)), (.ref (n0 + 4))])) (fun _ k => XS.aloadN A11.here hx rfl (own_db hby d_prog_64_method_6_29) rfl rfl k) ?_
    refine own_getF A11 hx hZ hown (hw _ (List.mem_of_getElem? (i := 26) rfl)) (i := 3) rfl 1 rfl rfl (own_db hby d_prog_64_method_6_30) ?_
    intro T12 A13
    show own_go _ _ _ _ _ _ _ (T12.setTop (mkF m 33 #[.val (.ref (n0 + 3)), .val (.int (own_g H (0 : Int32)))] [(.ref (n0 + 4)), (.int (0 : Int32)), (.ref (n0 + 4))]))
    refine own_by (u' := T12.setTop (mkF m 34 #[.val (.ref (n0 + 3)), .val (.int (own_g H (0 : Int32)))] [(.ref (n0 + 3)), (.ref (n0 + 4)), (.int (0 : Int32)), (.ref (n0 + 4))])) (fun _ k => XS.aloadN A13.here hx rfl (own_db hby d_prog_64_method_6_33) rfl rfl k) ?_
    refine own_getF A13 hx hZ hown (hw _ (List.mem_of_getElem? (i := 51) rfl)) (i := 3) rfl 3 rfl rfl (own_db hby d_prog_64_method_6_34) ?_
    intro T14 A15
    show own_go _ _ _ _ _ _ _ (T14.setTop (mkF m 37 #[.val (.ref (n0 + 3)), .val (.int (own_g H (0 : Int32)))] [(.int (sz - (1 : Int32))), (.ref (n0 + 4)), (.int (0 : Int32)), (.ref (n0 + 4))]))
    refine own_iaload A15 hx hZ (i := 4) rfl (x := (own_g H (sz - (1 : Int32)))) (own_rd ok.1 (own_szv hs).1 (own_szv hs).2) (own_db hby d_prog_64_method_6_37) ?_
    show own_go _ _ _ _ _ _ _ (T14.setTop (mkF m 38 #[.val (.ref (n0 + 3)), .val (.int (own_g H (0 : Int32)))] [(.int (own_g H (sz - (1 : Int32)))), (.int (0 : Int32)), (.ref (n0 + 4))]))
    refine own_iastore A15 hx hZ (i := 4) rfl ((0 : Int32).toNatClampNeg) (own_ix3 ok.1 own_vt0) (own_db hby d_prog_64_method_6_38) (its2 := [(own_obj Z "com/example/strandwise/strandwise/network/SearchState" ns_SearchState [(.ref (n0 + 1)), (.ref (n0 + 2)), (.ref (n0 + 3)), (.ref (n0 + 6)), (.int rc)]), (own_la Z D), (own_ia Z .byte S), (own_obj Z "com/example/strandwise/strandwise/network/VertexHeap" ns_VertexHeap [(.ref (n0 + 1)), (.ref (n0 + 4)), (.ref (n0 + 5)), (.int (sz - (1 : Int32)))]), (own_ia Z .int (H.set (0 : Int32).toNatClampNeg (own_g H (sz - (1 : Int32))))), (own_ia Z .int Q), (own_ia Z .int R)]) rfl ?_
    intro T16 A17
    show own_go _ _ _ _ _ _ _ (T16.setTop (mkF m 39 #[.val (.ref (n0 + 3)), .val (.int (own_g H (0 : Int32)))] []))
    refine own_by (u' := T16.setTop (mkF m 40 #[.val (.ref (n0 + 3)), .val (.int (own_g H (0 : Int32)))] [(.ref (n0 + 3))])) (fun _ k => XS.aloadN A17.here hx rfl (own_db hby d_prog_64_method_6_39) rfl rfl k) ?_
    refine own_getF A17 hx hZ hown (hw _ (List.mem_of_getElem? (i := 28) rfl)) (i := 3) rfl 2 rfl rfl (own_db hby d_prog_64_method_6_40) ?_
    intro T18 A19
    show own_go _ _ _ _ _ _ _ (T18.setTop (mkF m 43 #[.val (.ref (n0 + 3)), .val (.int (own_g H (0 : Int32)))] [(.ref (n0 + 5))]))
    refine own_by (u' := T18.setTop (mkF m 44 #[.val (.ref (n0 + 3)), .val (.int (own_g H (0 : Int32)))] [(.ref (n0 + 3)), (.ref (n0 + 5))])) (fun _ k => XS.aloadN A19.here hx rfl (own_db hby d_prog_64_method_6_43) rfl rfl k) ?_
    refine own_getF A19 hx hZ hown (hw _ (List.mem_of_getElem? (i := 26) rfl)) (i := 3) rfl 1 rfl rfl (own_db hby d_prog_64_method_6_44) ?_
    intro T20 A21
    show own_go _ _ _ _ _ _ _ (T20.setTop (mkF m 47 #[.val (.ref (n0 + 3)), .val (.int (own_g H (0 : Int32)))] [(.ref (n0 + 4)), (.ref (n0 + 5))]))
    refine own_by (u' := T20.setTop (mkF m 48 #[.val (.ref (n0 + 3)), .val (.int (own_g H (0 : Int32)))] [(.int (0 : Int32)), (.ref (n0 + 4)), (.ref (n0 + 5))])) (fun _ k => XS.iconst A21.here hx rfl (own_db hby d_prog_64_method_6_47) k) ?_
    refine own_iaload A21 hx hZ (i := 4) rfl (x := (own_g H (sz - (1 : Int32)))) (own_rds ok.1 own_vt0) (own_db hby d_prog_64_method_6_48) ?_
    show own_go _ _ _ _ _ _ _ (T20.setTop (mkF m 49 #[.val (.ref (n0 + 3)), .val (.int (own_g H (0 : Int32)))] [(.int (own_g H (sz - (1 : Int32)))), (.ref (n0 + 5))]))
    refine own_by (u' := T20.setTop (mkF m 50 #[.val (.ref (n0 + 3)), .val (.int (own_g H (0 : Int32)))] [(.int (0 : Int32)), (.int (own_g H (sz - (1 : Int32)))), (.ref (n0 + 5))])) (fun _ k => XS.iconst A21.here hx rfl (own_db hby d_prog_64_method_6_49) k) ?_
    refine own_iastore A21 hx hZ (i := 5) rfl ((own_g H (sz - (1 : Int32))).toNatClampNeg) (own_ix3 ok.2.1 (own_okv ok (own_szv hs))) (own_db hby d_prog_64_method_6_50) (its2 := [(own_obj Z "com/example/strandwise/strandwise/network/SearchState" ns_SearchState [(.ref (n0 + 1)), (.ref (n0 + 2)), (.ref (n0 + 3)), (.ref (n0 + 6)), (.int rc)]), (own_la Z D), (own_ia Z .byte S), (own_obj Z "com/example/strandwise/strandwise/network/VertexHeap" ns_VertexHeap [(.ref (n0 + 1)), (.ref (n0 + 4)), (.ref (n0 + 5)), (.int (sz - (1 : Int32)))]), (own_ia Z .int (H.set (0 : Int32).toNatClampNeg (own_g H (sz - (1 : Int32))))), (own_ia Z .int (Q.set (own_g H (sz - (1 : Int32))).toNatClampNeg (0 : Int32))), (own_ia Z .int R)]) rfl ?_
    intro T22 A23
    show own_go _ _ _ _ _ _ _ (T22.setTop (mkF m 51 #[.val (.ref (n0 + 3)), .val (.int (own_g H (0 : Int32)))] []))
    refine own_by (u' := T22.setTop (mkF m 52 #[.val (.ref (n0 + 3)), .val (.int (own_g H (0 : Int32)))] [(.ref (n0 + 3))])) (fun _ k => XS.aloadN A23.here hx rfl (own_db hby d_prog_64_method_6_51) rfl rfl k) ?_
    refine own_by (u' := T22.setTop (mkF m 53 #[.val (.ref (n0 + 3)), .val (.int (own_g H (0 : Int32)))] [(.int (0 : Int32)), (.ref (n0 + 3))])) (fun _ k => XS.iconst A23.here hx rfl (own_db hby d_prog_64_method_6_52) k) ?_
    refine own_callP (y := (⟨"com/example/strandwise/strandwise/network/VertexHeap", "siftDown", "(I)V"⟩ : MethodName)) (rest := []) A23 hx hZ hown (hw _ (List.mem_of_getElem? (i := 75) rfl)) (hw _ (List.mem_of_getElem? (i := 77) rfl)) (hw _ (List.mem_of_getElem? (i := 17) rfl)) (hw _ (List.mem_of_getElem? (i := 76) rfl)) (hw _ (List.mem_of_getElem? (i := 18) rfl)) (hw _ (List.mem_of_getElem? (i := 78) rfl)) (by decide) (i := 3) rfl (gDn l Z a0 hw n0 D S (H.set (0 : Int32).toNatClampNeg (own_g H (sz - (1 : Int32)))) (Q.set (own_g H (sz - (1 : Int32))).toNatClampNeg (0 : Int32)) R rc (sz - (1 : Int32)) Pr hD (own_okR ok hs) (by have := own_sz1 hs; omega) (own_pos0 hc9)) (by rw [hml]; rfl) [(.int (0 : Int32))] rfl rfl pd__I_V rfl (W := 0) (by show 2 * 0 + _ ≤ _; exact Nat.le_of_eq rfl) (own_db hby d_prog_64_method_6_53) (by decide) (by decide) (by decide) (by decide) ?_
    intro v27 i28 T30 hq29 A31
    obtain ⟨rfl, H24, Q25, ok26, rfl⟩ := hq29
    replace A31 : own_at p l e _ s m _ below meth c n0 T30 0 0 [(own_obj Z "com/example/strandwise/strandwise/network/SearchState" ns_SearchState [(.ref (n0 + 1)), (.ref (n0 + 2)), (.ref (n0 + 3)), (.ref (n0 + 6)), (.int rc)]), (own_la Z D), (own_ia Z .byte S), (own_obj Z "com/example/strandwise/strandwise/network/VertexHeap" ns_VertexHeap [(.ref (n0 + 1)), (.ref (n0 + 4)), (.ref (n0 + 5)), (.int (sz - (1 : Int32)))]), (own_ia Z .int H24), (own_ia Z .int Q25), (own_ia Z .int R)] := A31
    show own_go _ _ _ _ _ _ _ (T30.setTop (mkF m 56 #[.val (.ref (n0 + 3)), .val (.int (own_g H (0 : Int32)))] []))
    refine own_by (u' := T30.setTop (mkF m 57 #[.val (.ref (n0 + 3)), .val (.int (own_g H (0 : Int32)))] [(.int (own_g H (0 : Int32)))])) (fun _ k => XS.iloadN A31.here hx rfl (own_db hby d_prog_64_method_6_56) rfl k) ?_
    exact own_retI A31 hx hlk hret (own_db hby d_prog_64_method_6_57) (by decide) (by decide) ⟨rfl, _, _, ok26, rfl⟩
  · refine own_by (u' := T7.setTop (mkF m 56 #[.val (.ref (n0 + 3)), .val (.int (own_g H (0 : Int32)))] [])) (fun _ k => XS.ifYes A8.here hx rfl (pc0 := 21) (pc' := 56) rfl (own_db hby d_prog_64_method_6_21) rfl ((if0 _ _).trans (flt hc9).2.2.2) (by decide) (by decide) k) ?_
    refine own_by (u' := T7.setTop (mkF m 57 #[.val (.ref (n0 + 3)), .val (.int (own_g H (0 : Int32)))] [(.int (own_g H (0 : Int32)))])) (fun _ k => XS.iloadN A8.here hx rfl (own_db hby d_prog_64_method_6_56) rfl k) ?_
    exact own_retI A8 hx hlk hret (own_db hby d_prog_64_method_6_57) (by decide) (by decide) ⟨rfl, _, _, own_okle ok (by have := own_sz1 hs; omega), rfl⟩
theorem d_prog_51_method_6_0 : decode prog_51_method_6_code 0 = .ok (.aload_n 0, 1) := by decide +kernel
theorem d_prog_51_method_6_1 : decode prog_51_method_6_code 1 = .ok (.getfield 22, 3) := by decide +kernel
theorem d_prog_51_method_6_4 : decode prog_51_method_6_code 4 = .ok (.invokevirtual 52, 3) := by decide +kernel
theorem pd___I : parseMethodDescriptor "()I" = some ⟨[], some .int⟩ := by decide +kernel
theorem d_prog_51_method_6_7 : decode prog_51_method_6_code 7 = .ok (.istore_n 1, 1) := by decide +kernel
theorem d_prog_51_method_6_8 : decode prog_51_method_6_code 8 = .ok (.aload_n 0, 1) := by decide +kernel
theorem d_prog_51_method_6_9 : decode prog_51_method_6_code 9 = .ok (.getfield 13, 3) := by decide +kernel
theorem d_prog_51_method_6_12 : decode prog_51_method_6_code 12 = .ok (.iload_n 1, 1) := by decide +kernel
theorem d_prog_51_method_6_13 : decode prog_51_method_6_code 13 = .ok (.iconst 2, 1) := by decide +kernel
theorem d_prog_51_method_6_14 : decode prog_51_method_6_code 14 = .ok (.bastore, 1) := by decide +kernel
theorem d_prog_51_method_6_15 : decode prog_51_method_6_code 15 = .ok (.iload_n 1, 1) := by decide +kernel
theorem d_prog_51_method_6_16 : decode prog_51_method_6_code 16 = .ok (.ireturn, 1) := by decide +kernel
theorem pf_gT : plainFor (⟨"com/example/strandwise/strandwise/network/SearchState", "settleNext", "()I"⟩ : MethodName) = true := by first | exact plainFor_of_name (by first | (simp [plainName, overriddenIn]; done) | decide +kernel) | decide +kernel
theorem ef_gT (m : MethodId) (n0 : Nat) : entryFrame m #[(.ref (n0 + 0))] 2 = (mkF m 0 #[.val (.ref (n0 + 0)), .unset] []) := by first | (simp [entryFrame, mkF, argsToLocals, Value.category]; done) | rfl
set_option maxRecDepth 65536 in
set_option maxHeartbeats 40000000 in
theorem gT (l : Launch) (Z : State) (a0 : Array Value) (hw : ∀ d ∈ tables_1, d.before a0 Z = true) (n0 : Nat) (D : List Int64) (S : List Int32) (H : List Int32) (Q : List Int32) (R : List Int32) (rc : Int32) (sz : Int32) (Pr : Int32 → Prop) (hD : D.length = 3) (hS : S.length = 3) (ok : own_ok Pr sz.toInt H Q) (hs : 1 ≤ sz.toInt ∧ sz.toInt ≤ 3) :
    own_met l Z n0 (⟨"com/example/strandwise/strandwise/network/SearchState", "settleNext", "()I"⟩ : MethodName) prog_51_method_6_code 2 (some .int) ({ frames := 3, cells := 0, slots := 0, locals := 42 } : Room) #[(.ref (n0 + 0))] [(own_obj Z "com/example/strandwise/strandwise/network/SearchState" ns_SearchState [(.ref (n0 + 1)), (.ref (n0 + 2)), (.ref (n0 + 3)), (.ref (n0 + 6)), (.int rc)]), (own_la Z D), (own_ia Z .byte S), (own_obj Z "com/example/strandwise/strandwise/network/VertexHeap" ns_VertexHeap [(.ref (n0 + 1)), (.ref (n0 + 4)), (.ref (n0 + 5)), (.int sz)]), (own_ia Z .int H), (own_ia Z .int Q), (own_ia Z .int R)] (fun v its' => v = some (.int (own_g H (0 : Int32))) ∧ ∃ H' Q', own_ok Pr (sz - (1 : Int32)).toInt H' Q' ∧ its' = [(own_obj Z "com/example/strandwise/strandwise/network/SearchState" ns_SearchState [(.ref (n0 + 1)), (.ref (n0 + 2)), (.ref (n0 + 3)), (.ref (n0 + 6)), (.int rc)]), (own_la Z D), (own_ia Z .byte (S.set (own_g H (0 : Int32)).toNatClampNeg (2 : Int32))), (own_obj Z "com/example/strandwise/strandwise/network/VertexHeap" ns_VertexHeap [(.ref (n0 + 1)), (.ref (n0 + 4)), (.ref (n0 + 5)), (.int (sz - (1 : Int32)))]), (own_ia Z .int H'), (own_ia Z .int Q'), (own_ia Z .int R)]) := by
  refine own_met.of pf_gT ?_
  intro p e s m below meth c T0 hx hby hml hret hlk hZ hown hnm A0
  replace hown : s.vm.findClass "com/example/strandwise/strandwise/network/SearchState" = some m.cls := hown
  replace hml : c.maxLocals = 2 := hml
  rw [ef_gT m n0]
  show own_go _ _ _ _ _ _ _ (T0.setTop (mkF m 0 #[.val (.ref (n0 + 0)), .unset] []))
  refine own_by (u' := T0.setTop (mkF m 1 #[.val (.ref (n0 + 0)), .unset] [(.ref (n0 + 0))])) (fun _ k => XS.aloadN A0.here hx rfl (own_db hby d_prog_51_method_6_0) rfl rfl k) ?_
  refine own_getF A0 hx hZ hown (hw _ (List.mem_of_getElem? (i := 30) rfl)) (i := 0) rfl 2 rfl rfl (own_db hby d_prog_51_method_6_1) ?_
  intro T1 A2
  show own_go _ _ _ _ _ _ _ (T1.setTop (mkF m 4 #[.val (.ref (n0 + 0)), .unset] [(.ref (n0 + 3))]))
  refine own_callV (y := (⟨"com/example/strandwise/strandwise/network/VertexHeap", "removeFirst", "()I"⟩ : MethodName)) (rest := []) A2 hx hZ hown (hw _ (List.mem_of_getElem? (i := 70) rfl)) (hw _ (List.mem_of_getElem? (i := 71) rfl)) (hw _ (List.mem_of_getElem? (i := 73) rfl)) (hw _ (List.mem_of_getElem? (i := 72) rfl)) (hw _ (List.mem_of_getElem? (i := 18) rfl)) (hw _ (List.mem_of_getElem? (i := 74) rfl)) (by decide) (i := 3) rfl (gRm l Z a0 hw n0 D S H Q R rc sz Pr hD ok hs) (by rw [hml]; rfl) [] rfl rfl pd___I rfl (W := 0) (by show 2 * 0 + _ ≤ _; exact Nat.le_of_eq rfl) (own_db hby d_prog_51_method_6_4) (by decide) (by decide) (by decide) (by decide) ?_
  intro v6 i7 T9 hq8 A10
  obtain ⟨rfl, H3, Q4, ok5, rfl⟩ := hq8
  replace A10 : own_at p l e _ s m _ below meth c n0 T9 0 0 [(own_obj Z "com/example/strandwise/strandwise/network/SearchState" ns_SearchState [(.ref (n0 + 1)), (.ref (n0 + 2)), (.ref (n0 + 3)), (.ref (n0 + 6)), (.int rc)]), (own_la Z D), (own_ia Z .byte S), (own_obj Z "com/example/strandwise/strandwise/network/VertexHeap" ns_VertexHeap [(.ref (n0 + 1)), (.ref (n0 + 4)), (.ref (n0 + 5)), (.int (sz - (1 : Int32)))]), (own_ia Z .int H3), (own_ia Z .int Q4), (own_ia Z .int R)] := A10
  show own_go _ _ _ _ _ _ _ (T9.setTop (mkF m 7 #[.val (.ref (n0 + 0)), .unset] [(.int (own_g H (0 : Int32)))]))
  refine own_by (u' := T9.setTop (mkF m 8 #[.val (.ref (n0 + 0)), .val (.int (own_g H (0 : Int32)))] [])) (fun _ k => XS.istoreN A10.here hx rfl (own_db hby d_prog_51_method_6_7) rfl (l' := #[.val (.ref (n0 + 0)), .val (.int (own_g H (0 : Int32)))]) rfl k) ?_
  refine own_by (u' := T9.setTop (mkF m 9 #[.val (.ref (n0 + 0)), .val (.int (own_g H (0 : Int32)))] [(.ref (n0 + 0))])) (fun _ k => XS.aloadN A10.here hx rfl (own_db hby d_prog_51_method_6_8) rfl rfl k) ?_
  refine own_getF A10 hx hZ hown (hw _ (List.mem_of_getElem? (i := 14) rfl)) (i := 0) rfl 1 rfl rfl (own_db hby d_prog_51_method_6_9) ?_
  intro T11 A12
  show own_go _ _ _ _ _ _ _ (T11.setTop (mkF m 12 #[.val (.ref (n0 + 0)), .val (.int (own_g H (0 : Int32)))] [(.ref (n0 + 2))]))
  refine own_by (u' := T11.setTop (mkF m 13 #[.val (.ref (n0 + 0)), .val (.int (own_g H (0 : Int32)))] [(.int (own_g H (0 : Int32))), (.ref (n0 + 2))])) (fun _ k => XS.iloadN A12.here hx rfl (own_db hby d_prog_51_method_6_12) rfl k) ?_
  refine own_by (u' := T11.setTop (mkF m 14 #[.val (.ref (n0 + 0)), .val (.int (own_g H (0 : Int32)))] [(.int (2 : Int32)), (.int (own_g H (0 : Int32))), (.ref (n0 + 2))])) (fun _ k => XS.iconst A12.here hx rfl (own_db hby d_prog_51_method_6_13) k) ?_
  refine own_bastore A12 hx hZ (i := 2) rfl ((own_g H (0 : Int32)).toNatClampNeg) (own_ix3 hS (own_okv ok own_vt0)) (own_db hby d_prog_51_method_6_14) (its2 := [(own_obj Z "com/example/strandwise/strandwise/network/SearchState" ns_SearchState [(.ref (n0 + 1)), (.ref (n0 + 2)), (.ref (n0 + 3)), (.ref (n0 + 6)), (.int rc)]), (own_la Z D), (own_ia Z .byte (S.set (own_g H (0 : Int32)).toNatClampNeg (2 : Int32))), (own_obj Z "com/example/strandwise/strandwise/network/VertexHeap" ns_VertexHeap [(.ref (n0 + 1)), (.ref (n0 + 4)), (.ref (n0 + 5)), (.int (sz - (1 : Int32)))]), (own_ia Z .int H3), (own_ia Z .int Q4), (own_ia Z .int R)]) rfl ?_
  intro T13 A14
  show own_go _ _ _ _ _ _ _ (T13.setTop (mkF m 15 #[.val (.ref (n0 + 0)), .val (.int (own_g H (0 : Int32)))] []))
  refine own_by (u' := T13.setTop (mkF m 16 #[.val (.ref (n0 + 0)), .val (.int (own_g H (0 : Int32)))] [(.int (own_g H (0 : Int32)))])) (fun _ k => XS.iloadN A14.here hx rfl (own_db hby d_prog_51_method_6_15) rfl k) ?_
  exact own_retI A14 hx hlk hret (own_db hby d_prog_51_method_6_16) (by decide) (by decide) ⟨rfl, _, _, ok5, rfl⟩
theorem d_prog_51_method_3_0 : decode prog_51_method_3_code 0 = .ok (.iconst 0, 1) := by decide +kernel
theorem d_prog_51_method_3_1 : decode prog_51_method_3_code 1 = .ok (.istore 4, 2) := by decide +kernel
theorem d_prog_51_method_3_3 : decode prog_51_method_3_code 3 = .ok (.aload_n 0, 1) := by decide +kernel
theorem d_prog_51_method_3_4 : decode prog_51_method_3_code 4 = .ok (.getfield 13, 3) := by decide +kernel
theorem d_prog_51_method_3_7 : decode prog_51_method_3_code 7 = .ok (.iload_n 1, 1) := by decide +kernel
theorem d_prog_51_method_3_8 : decode prog_51_method_3_code 8 = .ok (.baload, 1) := by decide +kernel
theorem d_prog_51_method_3_9 : decode prog_51_method_3_code 9 = .ok (.ifCond .ne 48, 3) := by decide +kernel
theorem d_prog_51_method_3_12 : decode prog_51_method_3_code 12 = .ok (.aload_n 0, 1) := by decide +kernel
theorem d_prog_51_method_3_13 : decode prog_51_method_3_code 13 = .ok (.getfield 7, 3) := by decide +kernel
theorem d_prog_51_method_3_16 : decode prog_51_method_3_code 16 = .ok (.iload_n 1, 1) := by decide +kernel
theorem d_prog_51_method_3_17 : decode prog_51_method_3_code 17 = .ok (.lload_n 2, 1) := by decide +kernel
theorem d_prog_51_method_3_18 : decode prog_51_method_3_code 18 = .ok (.lastore, 1) := by decide +kernel
theorem d_prog_51_method_3_19 : decode prog_51_method_3_code 19 = .ok (.aload_n 0, 1) := by decide +kernel
theorem d_prog_51_method_3_20 : decode prog_51_method_3_code 20 = .ok (.getfield 13, 3) := by decide +kernel
theorem d_prog_51_method_3_23 : decode prog_51_method_3_code 23 = .ok (.iload_n 1, 1) := by decide +kernel
theorem d_prog_51_method_3_24 : decode prog_51_method_3_code 24 = .ok (.iconst 1, 1) := by decide +kernel
theorem d_prog_51_method_3_25 : decode prog_51_method_3_code 25 = .ok (.bastore, 1) := by decide +kernel
theorem d_prog_51_method_3_26 : decode prog_51_method_3_code 26 = .ok (.aload_n 0, 1) := by decide +kernel
theorem d_prog_51_method_3_27 : decode prog_51_method_3_code 27 = .ok (.getfield 26, 3) := by decide +kernel
theorem d_prog_51_method_3_30 : decode prog_51_method_3_code 30 = .ok (.aload_n 0, 1) := by decide +kernel
theorem d_prog_51_method_3_31 : decode prog_51_method_3_code 31 = .ok (.dup, 1) := by decide +kernel
theorem d_prog_51_method_3_32 : decode prog_51_method_3_code 32 = .ok (.getfield 33, 3) := by decide +kernel
theorem d_prog_51_method_3_35 : decode prog_51_method_3_code 35 = .ok (.dup_x1, 1) := by decide +kernel
theorem d_prog_51_method_3_36 : decode prog_51_method_3_code 36 = .ok (.iconst 1, 1) := by decide +kernel
theorem d_prog_51_method_3_37 : decode prog_51_method_3_code 37 = .ok (.iadd, 1) := by decide +kernel
theorem d_prog_51_method_3_38 : decode prog_51_method_3_code 38 = .ok (.putfield 33, 3) := by decide +kernel
theorem d_prog_51_method_3_41 : decode prog_51_method_3_code 41 = .ok (.iload_n 1, 1) := by decide +kernel
theorem d_prog_51_method_3_42 : decode prog_51_method_3_code 42 = .ok (.iastore, 1) := by decide +kernel
theorem d_prog_51_method_3_43 : decode prog_51_method_3_code 43 = .ok (.aload_n 0, 1) := by decide +kernel
theorem d_prog_51_method_3_44 : decode prog_51_method_3_code 44 = .ok (.getfield 22, 3) := by decide +kernel
theorem d_prog_51_method_3_47 : decode prog_51_method_3_code 47 = .ok (.iload_n 1, 1) := by decide +kernel
theorem d_prog_51_method_3_48 : decode prog_51_method_3_code 48 = .ok (.invokevirtual 37, 3) := by decide +kernel
theorem d_prog_51_method_3_51 : decode prog_51_method_3_code 51 = .ok (.iconst 1, 1) := by decide +kernel
theorem d_prog_51_method_3_52 : decode prog_51_method_3_code 52 = .ok (.istore 4, 2) := by decide +kernel
theorem d_prog_51_method_3_54 : decode prog_51_method_3_code 54 = .ok (.goto 42, 3) := by decide +kernel
theorem d_prog_51_method_3_96 : decode prog_51_method_3_code 96 = .ok (.iload 4, 2) := by decide +kernel
theorem d_prog_51_method_3_98 : decode prog_51_method_3_code 98 = .ok (.ireturn, 1) := by decide +kernel
theorem d_prog_51_method_3_57 : decode prog_51_method_3_code 57 = .ok (.aload_n 0, 1) := by decide +kernel
theorem d_prog_51_method_3_58 : decode prog_51_method_3_code 58 = .ok (.getfield 13, 3) := by decide +kernel
theorem d_prog_51_method_3_61 : decode prog_51_method_3_code 61 = .ok (.iload_n 1, 1) := by decide +kernel
theorem d_prog_51_method_3_62 : decode prog_51_method_3_code 62 = .ok (.baload, 1) := by decide +kernel
theorem d_prog_51_method_3_63 : decode prog_51_method_3_code 63 = .ok (.iconst 1, 1) := by decide +kernel
theorem d_prog_51_method_3_64 : decode prog_51_method_3_code 64 = .ok (.if_icmp .ne 32, 3) := by decide +kernel
theorem d_prog_51_method_3_67 : decode prog_51_method_3_code 67 = .ok (.lload_n 2, 1) := by decide +kernel
theorem d_prog_51_method_3_68 : decode prog_51_method_3_code 68 = .ok (.aload_n 0, 1) := by decide +kernel
theorem d_prog_51_method_3_69 : decode prog_51_method_3_code 69 = .ok (.getfield 7, 3) := by decide +kernel
theorem d_prog_51_method_3_72 : decode prog_51_method_3_code 72 = .ok (.iload_n 1, 1) := by decide +kernel
theorem d_prog_51_method_3_73 : decode prog_51_method_3_code 73 = .ok (.laload, 1) := by decide +kernel
theorem d_prog_51_method_3_74 : decode prog_51_method_3_code 74 = .ok (.lcmp, 1) := by decide +kernel
theorem d_prog_51_method_3_75 : decode prog_51_method_3_code 75 = .ok (.ifCond .ge 21, 3) := by decide +kernel
theorem d_prog_51_method_3_78 : decode prog_51_method_3_code 78 = .ok (.aload_n 0, 1) := by decide +kernel
theorem d_prog_51_method_3_79 : decode prog_51_method_3_code 79 = .ok (.getfield 7, 3) := by decide +kernel
theorem d_prog_51_method_3_82 : decode prog_51_method_3_code 82 = .ok (.iload_n 1, 1) := by decide +kernel
theorem d_prog_51_method_3_83 : decode prog_51_method_3_code 83 = .ok (.lload_n 2, 1) := by decide +kernel
theorem d_prog_51_method_3_84 : decode prog_51_method_3_code 84 = .ok (.lastore, 1) := by decide +kernel
theorem d_prog_51_method_3_85 : decode prog_51_method_3_code 85 = .ok (.aload_n 0, 1) := by decide +kernel
theorem d_prog_51_method_3_86 : decode prog_51_method_3_code 86 = .ok (.getfield 22, 3) := by decide +kernel
theorem d_prog_51_method_3_89 : decode prog_51_method_3_code 89 = .ok (.iload_n 1, 1) := by decide +kernel
theorem d_prog_51_method_3_90 : decode prog_51_method_3_code 90 = .ok (.invokevirtual 41, 3) := by decide +kernel
theorem d_prog_51_method_3_93 : decode prog_51_method_3_code 93 = .ok (.iconst 1, 1) := by decide +kernel
theorem d_prog_51_method_3_94 : decode prog_51_method_3_code 94 = .ok (.istore 4, 2) := by decide +kernel
theorem pf_gO : plainFor (⟨"com/example/strandwise/strandwise/network/SearchState", "offer", "(IJ)Z"⟩ : MethodName) = true := by first | exact plainFor_of_name (by first | (simp [plainName, overriddenIn]; done) | decide +kernel) | decide +kernel
theorem ef_gO (m : MethodId) (n0 : Nat) (vx : Int32) (ln : Int64) : entryFrame m #[(.ref (n0 + 0)), (.int vx), (.long ln)] 5 = (mkF m 0 #[.val (.ref (n0 + 0)), .val (.int vx), .val (.long ln), .second, .unset] []) := by first | (simp [entryFrame, mkF, argsToLocals, Value.category]; done) | rfl
set_option maxRecDepth 65536 in
set_option maxHeartbeats 40000000 in
theorem gO (l : Launch) (Z : State) (a0 : Array Value) (hw : ∀ d ∈ tables_1, d.before a0 Z = true) (n0 : Nat) (D : List Int64) (S : List Int32) (H : List Int32) (Q : List Int32) (R : List Int32) (rc : Int32) (sz : Int32) (vx : Int32) (ln : Int64) (Pr : Int32 → Prop) (Pr2 : Int32 → Prop) (hD : D.length = 3) (hS : S.length = 3) (hR : R.length = 3) (hv : own_vt vx) (ok : own_ok Pr sz.toInt H Q) (h0 : own_g S vx = 0 → own_vt sz ∧ own_vt rc ∧ own_ok Pr2 sz.toInt H Q ∧ Pr2 vx) :
    own_met l Z n0 (⟨"com/example/strandwise/strandwise/network/SearchState", "offer", "(IJ)Z"⟩ : MethodName) prog_51_method_3_code 5 (some .boolean) ({ frames := 3, cells := 0, slots := 0, locals := 42 } : Room) #[(.ref (n0 + 0)), (.int vx), (.long ln)] [(own_obj Z "com/example/strandwise/strandwise/network/SearchState" ns_SearchState [(.ref (n0 + 1)), (.ref (n0 + 2)), (.ref (n0 + 3)), (.ref (n0 + 6)), (.int rc)]), (own_la Z D), (own_ia Z .byte S), (own_obj Z "com/example/strandwise/strandwise/network/VertexHeap" ns_VertexHeap [(.ref (n0 + 1)), (.ref (n0 + 4)), (.ref (n0 + 5)), (.int sz)]), (own_ia Z .int H), (own_ia Z .int Q), (own_ia Z .int R)] (fun v its' => (∃ z : Int32, v = some (.int z)) ∧ (own_g S vx = 0 → ∃ D' H' Q', D'.length = 3 ∧ own_ok Pr2 (sz.toInt + 1) H' Q' ∧ its' = [(own_obj Z "com/example/strandwise/strandwise/network/SearchState" ns_SearchState [(.ref (n0 + 1)), (.ref (n0 + 2)), (.ref (n0 + 3)), (.ref (n0 + 6)), (.int (rc + (1 : Int32)))]), (own_la Z D'), (own_ia Z .byte (S.set vx.toNatClampNeg (1 : Int32))), (own_obj Z "com/example/strandwise/strandwise/network/VertexHeap" ns_VertexHeap [(.ref (n0 + 1)), (.ref (n0 + 4)), (.ref (n0 + 5)), (.int (sz + (1 : Int32)))]), (own_ia Z .int H'), (own_ia Z .int Q'), (own_ia Z .int (R.set rc.toNatClampNeg vx))]) ∧ (own_g S vx ≠ 0 → ∃ D' H' Q', D'.length = 3 ∧ its' = [(own_obj Z "com/example/strandwise/strandwise/network/SearchState" ns_SearchState [(.ref (n0 + 1)), (.ref (n0 + 2)), (.ref (n0 + 3)), (.ref (n0 + 6)), (.int rc)]), (own_la Z D'), (own_ia Z .byte S), (own_obj Z "com/example/strandwise/strandwise/network/VertexHeap" ns_VertexHeap [(.ref (n0 + 1)), (.ref (n0 + 4)), (.ref (n0 + 5)), (.int sz)]), (own_ia Z .int H'), (own_ia Z .int Q'), (own_ia Z .int R)])) := by
  refine own_met.of pf_gO ?_
  intro p e s m below meth c T0 hx hby hml hret hlk hZ hown hnm A0
  replace hown : s.vm.findClass "com/example/strandwise/strandwise/network/SearchState" = some m.cls := hown
  replace hml : c.maxLocals = 5 := hml
  rw [ef_gO m n0 vx ln]
  show own_go _ _ _ _ _ _ _ (T0.setTop (mkF m 0 #[.val (.ref (n0 + 0)), .val (.int vx), .val (.long ln), .second, .unset] []))
  refine own_by (u' := T0.setTop (mkF m 1 #[.val (.ref (n0 + 0)), .val (.int vx), .val (.long ln), .second, .unset] [(.int (0 : Int32))])) (fun _ k => XS.iconst A0.here hx rfl (own_db hby d_prog_51_method_3_0) k) ?_
  refine own_by (u' := T0.setTop (mkF m 3 #[.val (.ref (n0 + 0)), .val (.int vx), .val (.long ln), .second, .val (.int (0 : Int32))] [])) (fun _ k => XS.istore A0.here hx rfl (own_db hby d_prog_51_method_3_1) rfl (l' := #[.val (.ref (n0 + 0)), .val (.int vx), .val (.long ln), .second, .val (.int (0 : Int32))]) rfl k) ?_
  refine own_by (u' := T0.setTop (mkF m 4 #[.val (.ref (n0 + 0)), .val (.int vx), .val (.long ln), .second, .val (.int (0 : Int32))] [(.ref (n0 + 0))])) (fun _ k => XS.aloadN A0.here hx rfl (own_db hby d_prog_51_method_3_3) rfl rfl k) ?_
  refine own_getF A0 hx hZ hown (hw _ (List.mem_of_getElem? (i := 14) rfl)) (i := 0) rfl 1 rfl rfl (own_db hby d_prog_51_method_3_4) ?_
  intro T1 A2
  show own_go _ _ _ _ _ _ _ (T1.setTop (mkF m 7 #[.val (.ref (n0 + 0)), .val (.int vx), .val (.long ln), .second, .val (.int (0 : Int32))] [(.ref (n0 + 2))]))
  refine own_by (u' := T1.setTop (mkF m 8 #[.val (.ref (n0 + 0)), .val (.int vx), .val (.long ln), .second, .val (.int (0 : Int32))] [(.int vx), (.ref (n0 + 2))])) (fun _ k => XS.iloadN A2.here hx rfl (own_db hby d_prog_51_method_3_7) rfl k) ?_
  refine own_baload A2 hx hZ (i := 2) rfl (x := (own_g S vx)) (own_rd hS hv.1 hv.2) (own_db hby d_prog_51_method_3_8) ?_
  show own_go _ _ _ _ _ _ _ (T1.setTop (mkF m 9 #[.val (.ref (n0 + 0)), .val (.int vx), .val (.long ln), .second, .val (.int (0 : Int32))] [(.int (own_g S vx))]))
  by_cases hc3 : (own_g S vx) = (0 : Int32)
  · refine own_by (u' := T1.setTop (mkF m 12 #[.val (.ref (n0 + 0)), .val (.int vx), .val (.long ln), .second, .val (.int (0 : Int32))] [])) (fun _ k => XS.ifNo A2.here hx rfl (own_db hby d_prog_51_method_3_9) rfl ((if0 _ _).trans (teq hc3).2) k) ?_
    refine own_by (u' := T1.setTop (mkF m 13 #[.val (.ref (n0 + 0)), .val (.int vx), .val (.long ln), .second, .val (.int (0 : Int32))] [(.ref (n0 + 0))])) (fun _ k => XS.aloadN A2.here hx rfl (own_db hby d_prog_51_method_3_12) rfl rfl k) ?_
    refine own_getF A2 hx hZ hown (hw _ (List.mem_of_getElem? (i := 11) rfl)) (i := 0) rfl 0 rfl rfl (own_db hby d_prog_51_method_3_13) ?_
    intro T4 A5
    show own_go _ _ _ _ _ _ _ (T4.setTop (mkF m 16 #[.val (.ref (n0 + 0)), .val (.int vx), .val (.long ln), .second, .val (.int (0 : Int32))] [(.ref (n0 + 1))]))
    refine own_by (u' := T4.setTop (mkF m 17 #[.val (.ref (n0 + 0)), .val (.int vx), .val (.long ln), .second, .val (.int (0 : Int32))] [(.int vx), (.ref (n0 + 1))])) (fun _ k => XS.iloadN A5.here hx rfl (own_db hby d_prog_51_method_3_16) rfl k) ?_
    refine own_by (u' := T4.setTop (mkF m 18 #[.val (.ref (n0 + 0)), .val (.int vx), .val (.long ln), .second, .val (.int (0 : Int32))] [(.long ln), (.int vx), (.ref (n0 + 1))])) (fun _ k => XS.lloadN A5.here hx rfl (own_db hby d_prog_51_method_3_17) rfl k) ?_
    refine own_lastore A5 hx hZ (i := 1) rfl (vx.toNatClampNeg) (own_ix3 hD hv) (own_db hby d_prog_51_method_3_18) (its2 := [(own_obj Z "com/example/strandwise/strandwise/network/SearchState" ns_SearchState [(.ref (n0 + 1)), (.ref (n0 + 2)), (.ref (n0 + 3)), (.ref (n0 + 6)), (.int rc)]), (own_la Z (D.set vx.toNatClampNeg ln)), (own_ia Z .byte S), (own_obj Z "com/example/strandwise/strandwise/network/VertexHeap" ns_VertexHeap [(.ref (n0 + 1)), (.ref (n0 + 4)), (.ref (n0 + 5)), (.int sz)]), (own_ia Z .int H), (own_ia Z .int Q), (own_ia Z .int R)]) rfl ?_
    intro T6 A7
    show own_go _ _ _ _ _ _ _ (T6.setTop (mkF m 19 #[.val (.ref (n0 + 0)), .val (.int vx), .val (.long ln), .second, .val (.int (0 : Int32))] []))
    refine own_by (u' := T6.setTop (mkF m 20 #[.val (.ref (n0 + 0)), .val (.int vx), .val (.long ln), .second, .val (.int (0 : Int32))] [(.ref (n0 + 0))])) (fun _ k => XS.aloadN A7.here hx rfl (own_db hby d_prog_51_method_3_19) rfl rfl k) ?_
    refine own_getF A7 hx hZ hown (hw _ (List.mem_of_getElem? (i := 14) rfl)) (i := 0) rfl 1 rfl rfl (own_db hby d_prog_51_method_3_20) ?_
    intro T8 A9
    show own_go _ _ _ _ _ _ _ (T8.setTop (mkF m 23 #[.val (.ref (n0 + 0)), .val (.int vx), .val (.long ln), .second, .val (.int (0 : Int32))] [(.ref (n0 + 2))]))
    refine own_by (u' := T8.setTop (mkF m 24 #[.val (.ref (n0 + 0)), .val (.int vx), .val (.long ln), .second, .val (.int (0 : Int32))] [(.int vx), (.ref (n0 + 2))])) (fun _ k => XS.iloadN A9.here hx rfl (own_db hby d_prog_51_method_3_23) rfl k) ?_
    refine own_by (u' := T8.setTop (mkF m 25 #[.val (.ref (n0 + 0)), .val (.int vx), .val (.long ln), .second, .val (.int (0 : Int32))] [(.int (1 : Int32)), (.int vx), (.ref (n0 + 2))])) (fun _ k => XS.iconst A9.here hx rfl (own_db hby d_prog_51_method_3_24) k) ?_
    refine own_bastore A9 hx hZ (i := 2) rfl (vx.toNatClampNeg) (own_ix3 hS hv) (own_db hby d_prog_51_method_3_25) (its2 := [(own_obj Z "com/example/strandwise/strandwise/network/SearchState" ns_SearchState [(.ref (n0 + 1)), (.ref (n0 + 2)), (.ref (n0 + 3)), (.ref (n0 + 6)), (.int rc)]), (own_la Z (D.set vx.toNatClampNeg ln)), (own_ia Z .byte (S.set vx.toNatClampNeg (1 : Int32))), (own_obj Z "com/example/strandwise/strandwise/network/VertexHeap" ns_VertexHeap [(.ref (n0 + 1)), (.ref (n0 + 4)), (.ref (n0 + 5)), (.int sz)]), (own_ia Z .int H), (own_ia Z .int Q), (own_ia Z .int R)]) rfl ?_
    intro T10 A11
    show own_go _ _ _ _ _ _ _ (T10.setTop (mkF m 26 #[.val (.ref (n0 + 0)), .val (.int vx), .val (.long ln), .second, .val (.int (0 : Int32))] []))
    refine own_by (u' := T10.setTop (mkF m 27 #[.val (.ref (n0 + 0)), .val (.int vx), .val (.long ln), .second, .val (.int (0 : Int32))] [(.ref (n0 + 0))])) (fun _ k => XS.aloadN A11.here hx rfl (own_db hby d_prog_51_method_3_26) rfl rfl k) ?_
    refine own_getF A11 hx hZ hown (hw _ (List.mem_of_getElem? (i := 32) rfl)) (i := 0) rfl 3 rfl rfl (own_db hby d_prog_51_method_3_27) ?_
    intro T12 A13
    show own_go _ _ _ _ _ _ _ (T12.setTop (mkF m 30 #[.val (.ref (n0 + 0)), .val (.int vx), .val (.long ln), .second, .val (.int (0 : Int32))] [(.ref (n0 + 6))]))
    refine own_by (u' := T12.setTop (mkF m 31 #[.val (.ref (n0 + 0)), .val (.int vx), .val (.long ln), .second, .val (.int (0 : Int32))] [(.ref (n0 + 0)), (.ref (n0 + 6))])) (fun _ k => XS.aloadN A13.here hx rfl (own_db hby d_prog_51_method_3_30) rfl rfl k) ?_
    refine own_by (u' := T12.setTop (mkF m 32 #[.val (.ref (n0 + 0)), .val (.int vx), .val (.long ln), .second, .val (.int (0 : Int32))] [(.ref (n0 + 0)), (.ref (n0 + 0)), (.ref (n0 + 6))])) (fun _ k => XS.dup A13.here hx rfl (own_db hby d_prog_51_method_3_31) rfl rfl k) ?_
    refine own_getF A13 hx hZ hown (hw _ (List.mem_of_getElem? (i := 44) rfl)) (i := 0) rfl 4 rfl rfl (own_db hby d_prog_51_method_3_32) ?_
    intro T14 A15
    show own_go _ _ _ _ _ _ _ (T14.setTop (mkF m 35 #[.val (.ref (n0 + 0)), .val (.int vx), .val (.long ln), .second, .val (.int (0 : Int32))] [(.int rc), (.ref (n0 + 0)), (.ref (n0 + 6))]))
    refine own_by (u' := T14.setTop (mkF m 36 #[.val (.ref (n0 + 0)), .val (.int vx), .val (.long ln), .second, .val (.int (0 : Int32))] [(.int rc), (.ref (n0 + 0)), (.int rc), (.ref (n0 + 6))])) (fun _ k => XS.dupX1 A15.here hx rfl (own_db hby d_prog_51_method_3_35) rfl rfl rfl k) ?_
    refine own_by (u' := T14.setTop (mkF m 37 #[.val (.ref (n0 + 0)), .val (.int vx), .val (.long ln), .second, .val (.int (0 : Int32))] [(.int (1 : Int32)), (.int rc), (.ref (n0 + 0)), (.int rc), (.ref (n0 + 6))])) (fun _ k => XS.iconst A15.here hx rfl (own_db hby d_prog_51_method_3_36) k) ?_
    refine own_by (u' := T14.setTop (mkF m 38 #[.val (.ref (n0 + 0)), .val (.int vx), .val (.long ln), .second, .val (.int (0 : Int32))] [(.int (rc + (1 : Int32))), (.ref (n0 + 0)), (.int rc), (.ref (n0 + 6))])) (fun _ k => XS.iadd A15.here hx rfl (own_db hby d_prog_51_method_3_37) rfl k) ?_
    refine own_putF A15 hx hZ hown (hw _ (List.mem_of_getElem? (i := 44) rfl)) (i := 0) rfl 4 rfl (v' := (.int (rc + (1 : Int32)))) rfl (ap_ns_SearchState hw) (Or.inl (hw _ (List.mem_of_getElem? (i := 45) rfl))) (hw _ (List.mem_of_getElem? (i := 2) rfl)) (ty := .int) (by decide) rfl rfl (own_db hby d_prog_51_method_3_38) (its2 := [(own_obj Z "com/example/strandwise/strandwise/network/SearchState" ns_SearchState [(.ref (n0 + 1)), (.ref (n0 + 2)), (.ref (n0 + 3)), (.ref (n0 + 6)), (.int (rc + (1 : Int32)))]), (own_la Z (D.set vx.toNatClampNeg ln)), (own_ia Z .byte (S.set vx.toNatClampNeg (1 : Int32))), (own_obj Z "com/example/strandwise/strandwise/network/VertexHeap" ns_VertexHeap [(.ref (n0 + 1)), (.ref (n0 + 4)), (.ref (n0 + 5)), (.int sz)]), (own_ia Z .int H), (own_ia Z .int Q), (own_ia Z .int R)]) rfl ?_
    intro T16 A17
    show own_go _ _ _ _ _ _ _ (T16.setTop (mkF m 41 #[.val (.ref (n0 + 0)), .val (.int vx), .val (.long ln), .second, .val (.int (0 : Int32))] [(.int rc), (.ref (n0 + 6))]))
    refine own_by (u' := T16.setTop (mkF m 42 #[.val (.ref (n0 + 0)), .val (.int vx), .val (.long ln), .second, .val (.int (0 : Int32))] [(.int vx), (.int rc), (.ref (n0 + 6))])) (fun _ k => XS.iloadN A17.here hx rfl (own_db hby d_prog_51_method_3_41) rfl k) ?_
    refine own_iastore A17 hx hZ (i := 6) rfl (rc.toNatClampNeg) (own_ix3 hR (h0 hc3).2.1) (own_db hby d_prog_51_method_3_42) (its2 := [(own_obj Z "com/example/strandwise/strandwise/network/SearchState" ns_SearchState [(.ref (n0 + 1)), (.ref (n0 + 2)), (.ref (n0 + 3)), (.ref (n0 + 6)), (.int (rc + (1 : Int32)))]), (own_la Z (D.set vx.toNatClampNeg ln)), (own_ia Z .byte (S.set vx.toNatClampNeg (1 : Int32))), (own_obj Z "com/example/strandwise/strandwise/network/VertexHeap" ns_VertexHeap [(.ref (n0 + 1)), (.ref (n0 + 4)), (.ref (n0 + 5)), (.int sz)]), (own_ia Z .int H), (own_ia Z .int Q), (own_ia Z .int (R.set rc.toNatClampNeg vx))]) rfl ?_
    intro T18 A19
    show own_go _ _ _ _ _ _ _ (T18.setTop (mkF m 43 #[.val (.ref (n0 + 0)), .val (.int vx), .val (.long ln), .second, .val (.int (0 : Int32))] []))
    refine own_by (u' := T18.setTop (mkF m 44 #[.val (.ref (n0 + 0)), .val (.int vx), .val (.long ln), .second, .val (.int (0 : Int32))] [(.ref (n0 + 0))])) (fun _ k => XS.aloadN A19.here hx rfl (own_db hby d_prog_51_method_3_43) rfl rfl k) ?_
    refine own_getF A19 hx hZ hown (hw _ (List.mem_of_getElem? (i := 30) rfl)) (i := 0) rfl 2 rfl rfl (own_db hby d_prog_51_method_3_44) ?_
    intro T20 A21
    show own_go _ _ _ _ _ _ _ (T20.setTop (mkF m 47 #[.val (.ref (n0 + 0)), .val (.int vx), .val (.long ln), .second, .val (.int (0 : Int32))] [(.ref (n0 + 3))]))
    refine own_by (u' := T20.setTop (mkF m 48 #[.val (.ref (n0 + 0)), .val (.int vx), .val (.long ln), .second, .val (.int (0 : Int32))] [(.int vx), (.ref (n0 + 3))])) (fun _ k => XS.iloadN A21.here hx rfl (own_db hby d_prog_51_method_3_47) rfl k) ?_
    refine own_callV (y := (⟨"com/example/strandwise/strandwise/network/VertexHeap", "add", "(I)V"⟩ : MethodName)) (rest := []) A21 hx hZ hown (hw _ (List.mem_of_getElem? (i := 46) rfl)) (hw _ (List.mem_of_getElem? (i := 47) rfl)) (hw _ (List.mem_of_getElem? (i := 49) rfl)) (hw _ (List.mem_of_getElem? (i := 48) rfl)) (hw _ (List.mem_of_getElem? (i := 18) rfl)) (hw _ (List.mem_of_getElem? (i := 50) rfl)) (by decide) (i := 3) rfl (gA l Z a0 hw n0 (D.set vx.toNatClampNeg ln) (S.set vx.toNatClampNeg (1 : Int32)) H Q (R.set rc.toNatClampNeg vx) (rc + (1 : Int32)) sz vx Pr2 (own_len3 hD) (h0 hc3).2.2.1 (h0 hc3).1 hv (h0 hc3).2.2.2) (by rw [hml]; rfl) [(.int vx)] rfl rfl pd__I_V rfl (W := 0) (by show 2 * 0 + _ ≤ _; exact Nat.le_of_eq rfl) (own_db hby d_prog_51_method_3_48) (by decide) (by decide) (by decide) (by decide) ?_
    intro v25 i26 T28 hq27 A29
    obtain ⟨rfl, H22, Q23, ok24, rfl⟩ := hq27
    replace A29 : own_at p l e _ s m _ below meth c n0 T28 0 0 [(own_obj Z "com/example/strandwise/strandwise/network/SearchState" ns_SearchState [(.ref (n0 + 1)), (.ref (n0 + 2)), (.ref (n0 + 3)), (.ref (n0 + 6)), (.int (rc + (1 : Int32)))]), (own_la Z (D.set vx.toNatClampNeg ln)), (own_ia Z .byte (S.set vx.toNatClampNeg (1 : Int32))), (own_obj Z "com/example/strandwise/strandwise/network/VertexHeap" ns_VertexHeap [(.ref (n0 + 1)), (.ref (n0 + 4)), (.ref (n0 + 5)), (.int (sz + (1 : Int32)))]), (own_ia Z .int H22), (own_ia Z .int Q23), (own_ia Z .int (R.set rc.toNatClampNeg vx))] := A29
    show own_go _ _ _ _ _ _ _ (T28.setTop (mkF m 51 #[.val (.ref (n0 + 0)), .val (.int vx), .val (.long ln), .second, .val (.int (0 : Int32))] []))
    refine own_by (u' := T28.setTop (mkF m 52 #[.val (.ref (n0 + 0)), .val (.int vx), .val (.long ln), .second, .val (.int (0 : Int32))] [(.int (1 : Int32))])) (fun _ k => XS.iconst A29.here hx rfl (own_db hby d_prog_51_method_3_51) k) ?_
    refine own_by (u' := T28.setTop (mkF m 54 #[.val (.ref (n0 + 0)), .val (.int vx), .val (.long ln), .second, .val (.int (1 : Int32))] [])) (fun _ k => XS.istore A29.here hx rfl (own_db hby d_prog_51_method_3_52) rfl (l' := #[.val (.ref (n0 + 0)), .val (.int vx), .val (.long ln), .second, .val (.int (1 : Int32))]) rfl k) ?_
    refine own_by (u' := T28.setTop (mkF m 96 #[.val (.ref (n0 + 0)), .val (.int vx), .val (.long ln), .second, .val (.int (1 : Int32))] [])) (fun _ k => XS.goto A29.here hx rfl (pc0 := 54) (pc' := 96) rfl (own_db hby d_prog_51_method_3_54) (by decide) (by decide) k) ?_
    refine own_by (u' := T28.setTop (mkF m 98 #[.val (.ref (n0 + 0)), .val (.int vx), .val (.long ln), .second, .val (.int (1 : Int32))] [(.int (1 : Int32))])) (fun _ k => XS.iload A29.here hx rfl (own_db hby d_prog_51_method_3_96) rfl k) ?_
    exact own_retN A29 hx hlk (t := .boolean) (by simp) hret (own_db hby d_prog_51_method_3_98) (by decide) (by decide) ⟨⟨_, rfl⟩, fun _ => ⟨_, _, _, own_len3 hD, ok24, rfl⟩, fun q => absurd hc3 q⟩
  · refine own_by (u' := T1.setTop (mkF m 57 #[.val (.ref (n0 + 0)), .val (.int vx), .val (.long ln), .second, .val (.int (0 : Int32))] [])) (fun _ k => XS.ifYes A2.here hx rfl (pc0 := 9) (pc' := 57) rfl (own_db hby d_prog_51_method_3_9) rfl ((if0 _ _).trans (feq hc3).2) (by decide) (by decide) k) ?_
    refine own_by (u' := T1.setTop (mkF m 58 #[.val (.ref (n0 + 0)), .val (.int vx), .val (.long ln), .second, .val (.int (0 : Int32))] [(.ref (n0 + 0))])) (fun _ k => XS.aloadN A2.here hx rfl (own_db hby d_prog_51_method_3_57) rfl rfl k) ?_
    refine own_getF A2 hx hZ hown (hw _ (List.mem_of_getElem? (i := 14) rfl)) (i := 0) rfl 1 rfl rfl (own_db hby d_prog_51_method_3_58) ?_
    intro T30 A31
    show own_go _ _ _ _ _ _ _ (T30.setTop (mkF m 61 #[.val (.ref (n0 + 0)), .val (.int vx), .val (.long ln), .second, .val (.int (0 : Int32))] [(.ref (n0 + 2))]))
    refine own_by (u' := T30.setTop (mkF m 62 #[.val (.ref (n0 + 0)), .val (.int vx), .val (.long ln), .second, .val (.int (0 : Int32))] [(.int vx), (.ref (n0 + 2))])) (fun _ k => XS.iloadN A31.here hx rfl (own_db hby d_prog_51_method_3_61) rfl k) ?_
    refine own_baload A31 hx hZ (i := 2) rfl (x := (own_g S vx)) (own_rd hS hv.1 hv.2) (own_db hby d_prog_51_method_3_62) ?_
    show own_go _ _ _ _ _ _ _ (T30.setTop (mkF m 63 #[.val (.ref (n0 + 0)), .val (.int vx), .val (.long ln), .second, .val (.int (0 : Int32))] [(.int (own_g S vx))]))
    refine own_by (u' := T30.setTop (mkF m 64 #[.val (.ref (n0 + 0)), .val (.int vx), .val (.long ln), .second, .val (.int (0 : Int32))] [(.int (1 : Int32)), (.int (own_g S vx))])) (fun _ k => XS.iconst A31.here hx rfl (own_db hby d_prog_51_method_3_63) k) ?_
    by_cases hc32 : (own_g S vx) = (1 : Int32)
    · refine own_by (u' := T30.setTop (mkF m 67 #[.val (.ref (n0 + 0)), .val (.int vx), .val (.long ln), .second, .val (.int (0 : Int32))] [])) (fun _ k => XS.icmpNo A31.here hx rfl (own_db hby d_prog_51_method_3_64) rfl (teq hc32).2 k) ?_
      refine own_by (u' := T30.setTop (mkF m 68 #[.val (.ref (n0 + 0)), .val (.int vx), .val (.long ln), .second, .val (.int (0 : Int32))] [(.long ln)])) (fun _ k => XS.lloadN A31.here hx rfl (own_db hby d_prog_51_method_3_67) rfl k) ?_
      refine own_by (u' := T30.setTop (mkF m 69 #[.val (.ref (n0 + 0)), .val (.int vx), .val (.long ln), .second, .val (.int (0 : Int32))] [(.ref (n0 + 0)), (.long ln)])) (fun _ k => XS.aloadN A31.here hx rfl (own_db hby d_prog_51_method_3_68) rfl rfl k) ?_
      refine own_getF A31 hx hZ hown (hw _ (List.mem_of_getElem? (i := 11) rfl)) (i := 0) rfl 0 rfl rfl (own_db hby d_prog_51_method_3_69) ?_
      intro T33 A34
      show own_go _ _ _ _ _ _ _ (T33.setTop (mkF m 72 #[.val (.ref (n0 + 0)), .val (.int vx), .val (.long ln), .second, .val (.int (0 : Int32))] [(.ref (n0 + 1)), (.long ln)]))
      refine own_by (u' := T33.setTop (mkF m 73 #[.val (.ref (n0 + 0)), .val (.int vx), .val (.long ln), .second, .val (.int (0 : Int32))] [(.int vx), (.ref (n0 + 1)), (.long ln)])) (fun _ k => XS.iloadN A34.here hx rfl (own_db hby d_prog_51_method_3_72) rfl k) ?_
      refine own_laload A34 hx hZ (i := 1) rfl (x := (own_gl D vx)) (own_rdl hD hv.1 hv.2) (own_db hby d_prog_51_method_3_73) ?_
      show own_go _ _ _ _ _ _ _ (T33.setTop (mkF m 74 #[.val (.ref (n0 + 0)), .val (.int vx), .val (.long ln), .second, .val (.int (0 : Int32))] [(.long (own_gl D vx)), (.long ln)]))
      refine own_by (u' := T33.setTop (mkF m 75 #[.val (.ref (n0 + 0)), .val (.int vx), .val (.long ln), .second, .val (.int (0 : Int32))] [(.int (lcmpW ln (own_gl D vx)))])) (fun _ k => XS.lcmp A34.here hx rfl (own_db hby d_prog_51_method_3_74) rfl k) ?_
      by_cases hc35 : ln < (own_gl D vx)
      · refine own_by (u' := T33.setTop (mkF m 78 #[.val (.ref (n0 + 0)), .val (.int vx), .val (.long ln), .second, .val (.int (0 : Int32))] [])) (fun _ k => XS.ifNo A34.here hx rfl (own_db hby d_prog_51_method_3_75) rfl ((if0 _ _).trans (tlt (own_lc_lt hc35)).2.1) k) ?_
        refine own_by (u' := T33.setTop (mkF m 79 #[.val (.ref (n0 + 0)), .val (.int vx), .val (.long ln), .second, .val (.int (0 : Int32))] [(.ref (n0 + 0))])) (fun _ k => XS.aloadN A34.here hx rfl (own_db hby d_prog_51_method_3_78) rfl rfl k) ?_
        refine own_getF A34 hx hZ hown (hw _ (List.mem_of_getElem? (i := 11) rfl)) (i := 0) rfl 0 rfl rfl (own_db hby d_prog_51_method_3_79) ?_
        intro T36 A37
        show own_go _ _ _ _ _ _ _ (T36.setTop (mkF m 82 #[.val (.ref (n0 + 0)), .val (.int vx), .val (.long ln), .second, .val (.int (0 : Int32))] [(.ref (n0 + 1))]))
        refine own_by (u' := T36.setTop (mkF m 83 #[.val (.ref (n0 + 0)), .val (.int vx), .val (.long ln), .second, .val (.int (0 : Int32))] [(.int vx), (.ref (n0 + 1))])) (fun _ k => XS.iloadN A37.here hx rfl (own_db hby d_prog_51_method_3_82) rfl k) ?_
        refine own_by (u' := T36.setTop (mkF m 84 #[.val (.ref (n0 + 0)), .val (.int vx), .val (.long ln), .second, .val (.int (0 : Int32))] [(.long ln), (.int vx), (.ref (n0 + 1))])) (fun _ k => XS.lloadN A37.here hx rfl (own_db hby d_prog_51_method_3_83) rfl k) ?_
        refine own_lastore A37 hx hZ (i := 1) rfl (vx.toNatClampNeg) (own_ix3 hD hv) (own_db hby d_prog_51_method_3_84) (its2 := [(own_obj Z "com/example/strandwise/strandwise/network/SearchState" ns_SearchState [(.ref (n0 + 1)), (.ref (n0 + 2)), (.ref (n0 + 3)), (.ref (n0 + 6)), (.int rc)]), (own_la Z (D.set vx.toNatClampNeg ln)), (own_ia Z .byte S), (own_obj Z "com/example/strandwise/strandwise/network/VertexHeap" ns_VertexHeap [(.ref (n0 + 1)), (.ref (n0 + 4)), (.ref (n0 + 5)), (.int sz)]), (own_ia Z .int H), (own_ia Z .int Q), (own_ia Z .int R)]) rfl ?_
        intro T38 A39
        show own_go _ _ _ _ _ _ _ (T38.setTop (mkF m 85 #[.val (.ref (n0 + 0)), .val (.int vx), .val (.long ln), .second, .val (.int (0 : Int32))] []))
        refine own_by (u' := T38.setTop (mkF m 86 #[.val (.ref (n0 + 0)), .val (.int vx), .val (.long ln), .second, .val (.int (0 : Int32))] [(.ref (n0 + 0))])) (fun _ k => XS.aloadN A39.here hx rfl (own_db hby d_prog_51_method_3_85) rfl rfl k) ?_
        refine own_getF A39 hx hZ hown (hw _ (List.mem_of_getElem? (i := 30) rfl)) (i := 0) rfl 2 rfl rfl (own_db hby d_prog_51_method_3_86) ?_
        intro T40 A41
        show own_go _ _ _ _ _ _ _ (T40.setTop (mkF m 89 #[.val (.ref (n0 + 0)), .val (.int vx), .val (.long ln), .second, .val (.int (0 : Int32))] [(.ref (n0 + 3))]))
        refine own_by (u' := T40.setTop (mkF m 90 #[.val (.ref (n0 + 0)), .val (.int vx), .val (.long ln), .second, .val (.int (0 : Int32))] [(.int vx), (.ref (n0 + 3))])) (fun _ k => XS.iloadN A41.here hx rfl (own_db hby d_prog_51_method_3_89) rfl k) ?_
        refine own_callV (y := (⟨"com/example/strandwise/strandwise/network/VertexHeap", "keyLowered", "(I)V"⟩ : MethodName)) (rest := []) A41 hx hZ hown (hw _ (List.mem_of_getElem? (i := 89) rfl)) (hw _ (List.mem_of_getElem? (i := 90) rfl)) (hw _ (List.mem_of_getElem? (i := 92) rfl)) (hw _ (List.mem_of_getElem? (i := 91) rfl)) (hw _ (List.mem_of_getElem? (i := 18) rfl)) (hw _ (List.mem_of_getElem? (i := 93) rfl)) (by decide) (i := 3) rfl (gW l Z a0 hw n0 (D.set vx.toNatClampNeg ln) S H Q R rc sz vx Pr sz.toInt (own_len3 hD) ok hv) (by rw [hml]; rfl) [(.int vx)] rfl rfl pd__I_V rfl (W := 0) (by show 2 * 0 + _ ≤ _; exact Nat.le_of_eq rfl) (own_db hby d_prog_51_method_3_90) (by decide) (by decide) (by decide) (by decide) ?_
        intro v45 i46 T48 hq47 A49
        obtain ⟨rfl, H42, Q43, ok44, rfl⟩ := hq47
        replace A49 : own_at p l e _ s m _ below meth c n0 T48 0 0 [(own_obj Z "com/example/strandwise/strandwise/network/SearchState" ns_SearchState [(.ref (n0 + 1)), (.ref (n0 + 2)), (.ref (n0 + 3)), (.ref (n0 + 6)), (.int rc)]), (own_la Z (D.set vx.toNatClampNeg ln)), (own_ia Z .byte S), (own_obj Z "com/example/strandwise/strandwise/network/VertexHeap" ns_VertexHeap [(.ref (n0 + 1)), (.ref (n0 + 4)), (.ref (n0 + 5)), (.int sz)]), (own_ia Z .int H42), (own_ia Z .int Q43), (own_ia Z .int R)] := A49
        show own_go _ _ _ _ _ _ _ (T48.setTop (mkF m 93 #[.val (.ref (n0 + 0)), .val (.int vx), .val (.long ln), .second, .val (.int (0 : Int32))] []))
        refine own_by (u' := T48.setTop (mkF m 94 #[.val (.ref (n0 + 0)), .val (.int vx), .val (.long ln), .second, .val (.int (0 : Int32))] [(.int (1 : Int32))])) (fun _ k => XS.iconst A49.here hx rfl (own_db hby d_prog_51_method_3_93) k) ?_
        refine own_by (u' := T48.setTop (mkF m 96 #[.val (.ref (n0 + 0)), .val (.int vx), .val (.long ln), .second, .val (.int (1 : Int32))] [])) (fun _ k => XS.istore A49.here hx rfl (own_db hby d_prog_51_method_3_94) rfl (l' := #[.val (.ref (n0 + 0)), .val (.int vx), .val (.long ln), .second, .val (.int (1 : Int32))]) rfl k) ?_
        refine own_by (u' := T48.setTop (mkF m 98 #[.val (.ref (n0 + 0)), .val (.int vx), .val (.long ln), .second, .val (.int (1 : Int32))] [(.int (1 : Int32))])) (fun _ k => XS.iload A49.here hx rfl (own_db hby d_prog_51_method_3_96) rfl k) ?_
        exact own_retN A49 hx hlk (t := .boolean) (by simp) hret (own_db hby d_prog_51_method_3_98) (by decide) (by decide) ⟨⟨_, rfl⟩, fun q => absurd q hc3, fun _ => ⟨_, _, _, own_len3 hD, rfl⟩⟩
      · refine own_by (u' := T33.setTop (mkF m 96 #[.val (.ref (n0 + 0)), .val (.int vx), .val (.long ln), .second, .val (.int (0 : Int32))] [])) (fun _ k => XS.ifYes A34.here hx rfl (pc0 := 75) (pc' := 96) rfl (own_db hby d_prog_51_method_3_75) rfl ((if0 _ _).trans (flt (own_lc_nlt hc35)).2.1) (by decide) (by decide) k) ?_
        refine own_by (u' := T33.setTop (mkF m 98 #[.val (.ref (n0 + 0)), .val (.int vx), .val (.long ln), .second, .val (.int (0 : Int32))] [(.int (0 : Int32))])) (fun _ k => XS.iload A34.here hx rfl (own_db hby d_prog_51_method_3_96) rfl k) ?_
        exact own_retN A34 hx hlk (t := .boolean) (by simp) hret (own_db hby d_prog_51_method_3_98) (by decide) (by decide) ⟨⟨_, rfl⟩, fun q => absurd q hc3, fun _ => ⟨_, _, _, hD, rfl⟩⟩
    · refine own_by (u' := T30.setTop (mkF m 96 #[.val (.ref (n0 + 0)), .val (.int vx), .val (.long ln), .second, .val (.int (0 : Int32))] [])) (fun _ k => XS.icmpYes A31.here hx rfl (pc0 := 64) (pc' := 96) rfl (own_db hby d_prog_51_method_3_64) rfl (feq hc32).2 (by decide) (by decide) k) ?_
      refine own_by (u' := T30.setTop (mkF m 98 #[.val (.ref (n0 + 0)), .val (.int vx), .val (.long ln), .second, .val (.int (0 : Int32))] [(.int (0 : Int32))])) (fun _ k => XS.iload A31.here hx rfl (own_db hby d_prog_51_method_3_96) rfl k) ?_
      exact own_retN A31 hx hlk (t := .boolean) (by simp) hret (own_db hby d_prog_51_method_3_98) (by decide) (by decide) ⟨⟨_, rfl⟩, fun q => absurd q hc3, fun _ => ⟨_, _, _, hD, rfl⟩⟩
theorem d_prog_64_method_7_0 : decode prog_64_method_7_code 0 = .ok (.aload_n 0, 1) := by decide +kernel
theorem d_prog_64_method_7_1 : decode prog_64_method_7_code 1 = .ok (.iconst 0, 1) := by decide +kernel
theorem d_prog_64_method_7_2 : decode prog_64_method_7_code 2 = .ok (.putfield 20, 3) := by decide +kernel
theorem d_prog_64_method_7_5 : decode prog_64_method_7_code 5 = .ok (.return_, 1) := by decide +kernel
theorem pf_gVK : plainFor (⟨"com/example/strandwise/strandwise/network/VertexHeap", "clear", "()V"⟩ : MethodName) = true := by first | exact plainFor_of_name (by first | (simp [plainName, overriddenIn]; done) | decide +kernel) | decide +kernel
theorem ef_gVK (m : MethodId) (n0 : Nat) : entryFrame m #[(.ref (n0 + 3))] 1 = (mkF m 0 #[.val (.ref (n0 + 3))] []) := by first | (simp [entryFrame, mkF, argsToLocals, Value.category]; done) | rfl
set_option maxRecDepth 65536 in
set_option maxHeartbeats 40000000 in
theorem gVK (l : Launch) (Z : State) (a0 : Array Value) (hw : ∀ d ∈ tables_1, d.before a0 Z = true) (n0 : Nat) (D : List Int64) (S : List Int32) (H : List Int32) (Q : List Int32) (R : List Int32) (rc : Int32) (sz : Int32)  :
    own_met l Z n0 (⟨"com/example/strandwise/strandwise/network/VertexHeap", "clear", "()V"⟩ : MethodName) prog_64_method_7_code 1 none ({ frames := 0, cells := 0, slots := 0, locals := 0 } : Room) #[(.ref (n0 + 3))] [(own_obj Z "com/example/strandwise/strandwise/network/SearchState" ns_SearchState [(.ref (n0 + 1)), (.ref (n0 + 2)), (.ref (n0 + 3)), (.ref (n0 + 6)), (.int rc)]), (own_la Z D), (own_ia Z .byte S), (own_obj Z "com/example/strandwise/strandwise/network/VertexHeap" ns_VertexHeap [(.ref (n0 + 1)), (.ref (n0 + 4)), (.ref (n0 + 5)), (.int sz)]), (own_ia Z .int H), (own_ia Z .int Q), (own_ia Z .int R)] (fun v its' => v = none ∧ its' = [(own_obj Z "com/example/strandwise/strandwise/network/SearchState" ns_SearchState [(.ref (n0 + 1)), (.ref (n0 + 2)), (.ref (n0 + 3)), (.ref (n0 + 6)), (.int rc)]), (own_la Z D), (own_ia Z .byte S), (own_obj Z "com/example/strandwise/strandwise/network/VertexHeap" ns_VertexHeap [(.ref (n0 + 1)), (.ref (n0 + 4)), (.ref (n0 + 5)), (.int (0 : Int32))]), (own_ia Z .int H), (own_ia Z .int Q), (own_ia Z .int R)]) := by
  refine own_met.of pf_gVK ?_
  intro p e s m below meth c T0 hx hby hml hret hlk hZ hown hnm A0
  replace hown : s.vm.findClass "com/example/strandwise/strandwise/network/VertexHeap" = some m.cls := hown
  replace hml : c.maxLocals = 1 := hml
  rw [ef_gVK m n0]
  show own_go _ _ _ _ _ _ _ (T0.setTop (mkF m 0 #[.val (.ref (n0 + 3))] []))
  refine own_by (u' := T0.setTop (mkF m 1 #[.val (.ref (n0 + 3))] [(.ref (n0 + 3))])) (fun _ k => XS.aloadN A0.here hx rfl (own_db hby d_prog_64_method_7_0) rfl rfl k) ?_
  refine own_by (u' := T0.setTop (mkF m 2 #[.val (.ref (n0 + 3))] [(.int (0 : Int32)), (.ref (n0 + 3))])) (fun _ k => XS.iconst A0.here hx rfl (own_db hby d_prog_64_method_7_1) k) ?_
  refine own_putF A0 hx hZ hown (hw _ (List.mem_of_getElem? (i := 51) rfl)) (i := 3) rfl 3 rfl (v' := (.int (0 : Int32))) rfl (ap_ns_VertexHeap hw) (Or.inl (hw _ (List.mem_of_getElem? (i := 52) rfl))) (hw _ (List.mem_of_getElem? (i := 17) rfl)) (ty := .int) (by decide) rfl rfl (own_db hby d_prog_64_method_7_2) (its2 := [(own_obj Z "com/example/strandwise/strandwise/network/SearchState" ns_SearchState [(.ref (n0 + 1)), (.ref (n0 + 2)), (.ref (n0 + 3)), (.ref (n0 + 6)), (.int rc)]), (own_la Z D), (own_ia Z .byte S), (own_obj Z "com/example/strandwise/strandwise/network/VertexHeap" ns_VertexHeap [(.ref (n0 + 1)), (.ref (n0 + 4)), (.ref (n0 + 5)), (.int (0 : Int32))]), (own_ia Z .int H), (own_ia Z .int Q), (own_ia Z .int R)]) rfl ?_
  intro T1 A2
  show own_go _ _ _ _ _ _ _ (T1.setTop (mkF m 5 #[.val (.ref (n0 + 3))] []))
  exact own_retV A2 hx hlk hret (own_db hby d_prog_64_method_7_5) (by decide) (by decide) ⟨rfl, rfl⟩
theorem d_prog_51_method_2_0 : decode prog_51_method_2_code 0 = .ok (.aload_n 0, 1) := by decide +kernel
theorem d_prog_51_method_2_1 : decode prog_51_method_2_code 1 = .ok (.getfield 22, 3) := by decide +kernel
theorem d_prog_51_method_2_4 : decode prog_51_method_2_code 4 = .ok (.invokevirtual 30, 3) := by decide +kernel
theorem pd___V : parseMethodDescriptor "()V" = some ⟨[], none⟩ := by decide +kernel
theorem d_prog_51_method_2_7 : decode prog_51_method_2_code 7 = .ok (.iconst 0, 1) := by decide +kernel
theorem d_prog_51_method_2_8 : decode prog_51_method_2_code 8 = .ok (.istore_n 1, 1) := by decide +kernel
theorem d_prog_51_method_2_9 : decode prog_51_method_2_code 9 = .ok (.iload_n 1, 1) := by decide +kernel
theorem d_prog_51_method_2_10 : decode prog_51_method_2_code 10 = .ok (.aload_n 0, 1) := by decide +kernel
theorem d_prog_51_method_2_11 : decode prog_51_method_2_code 11 = .ok (.getfield 33, 3) := by decide +kernel
theorem d_prog_51_method_2_14 : decode prog_51_method_2_code 14 = .ok (.if_icmp .ge 21, 3) := by decide +kernel
theorem d_prog_51_method_2_35 : decode prog_51_method_2_code 35 = .ok (.aload_n 0, 1) := by decide +kernel
theorem d_prog_51_method_2_36 : decode prog_51_method_2_code 36 = .ok (.iconst 0, 1) := by decide +kernel
theorem d_prog_51_method_2_37 : decode prog_51_method_2_code 37 = .ok (.putfield 33, 3) := by decide +kernel
theorem d_prog_51_method_2_40 : decode prog_51_method_2_code 40 = .ok (.return_, 1) := by decide +kernel
theorem d_prog_51_method_2_17 : decode prog_51_method_2_code 17 = .ok (.aload_n 0, 1) := by decide +kernel
theorem d_prog_51_method_2_18 : decode prog_51_method_2_code 18 = .ok (.getfield 13, 3) := by decide +kernel
theorem d_prog_51_method_2_21 : decode prog_51_method_2_code 21 = .ok (.aload_n 0, 1) := by decide +kernel
theorem d_prog_51_method_2_22 : decode prog_51_method_2_code 22 = .ok (.getfield 26, 3) := by decide +kernel
theorem d_prog_51_method_2_25 : decode prog_51_method_2_code 25 = .ok (.iload_n 1, 1) := by decide +kernel
theorem d_prog_51_method_2_26 : decode prog_51_method_2_code 26 = .ok (.iaload, 1) := by decide +kernel
theorem d_prog_51_method_2_27 : decode prog_51_method_2_code 27 = .ok (.iconst 0, 1) := by decide +kernel
theorem d_prog_51_method_2_28 : decode prog_51_method_2_code 28 = .ok (.bastore, 1) := by decide +kernel
theorem d_prog_51_method_2_29 : decode prog_51_method_2_code 29 = .ok (.iinc 1 1, 3) := by decide +kernel
theorem d_prog_51_method_2_32 : decode prog_51_method_2_code 32 = .ok (.goto (-23), 3) := by decide +kernel
theorem pf_gK : plainFor (⟨"com/example/strandwise/strandwise/network/SearchState", "clear", "()V"⟩ : MethodName) = true := by first | exact plainFor_of_name (by first | (simp [plainName, overriddenIn]; done) | decide +kernel) | decide +kernel
theorem ef_gK (m : MethodId) (n0 : Nat) : entryFrame m #[(.ref (n0 + 0))] 2 = (mkF m 0 #[.val (.ref (n0 + 0)), .unset] []) := by first | (simp [entryFrame, mkF, argsToLocals, Value.category]; done) | rfl
set_option maxRecDepth 65536 in
set_option maxHeartbeats 40000000 in
theorem gK (l : Launch) (Z : State) (a0 : Array Value) (hw : ∀ d ∈ tables_1, d.before a0 Z = true) (n0 : Nat) (D : List Int64) (S : List Int32) (H : List Int32) (Q : List Int32) (R : List Int32) (rc : Int32) (sz : Int32) (hS : S.length = 3) (hR : R.length = 3) (hrv : ∀ x ∈ R, own_vt x) (hrc : 0 ≤ rc.toInt ∧ rc.toInt ≤ 3) :
    own_met l Z n0 (⟨"com/example/strandwise/strandwise/network/SearchState", "clear", "()V"⟩ : MethodName) prog_51_method_2_code 2 none ({ frames := 1, cells := 0, slots := 0, locals := 12 } : Room) #[(.ref (n0 + 0))] [(own_obj Z "com/example/strandwise/strandwise/network/SearchState" ns_SearchState [(.ref (n0 + 1)), (.ref (n0 + 2)), (.ref (n0 + 3)), (.ref (n0 + 6)), (.int rc)]), (own_la Z D), (own_ia Z .byte S), (own_obj Z "com/example/strandwise/strandwise/network/VertexHeap" ns_VertexHeap [(.ref (n0 + 1)), (.ref (n0 + 4)), (.ref (n0 + 5)), (.int sz)]), (own_ia Z .int H), (own_ia Z .int Q), (own_ia Z .int R)] (fun v its' => v = none ∧ ∃ S', S'.length = 3 ∧ (∀ v, own_vt v → own_g S' v ≠ 0 → own_g S v ≠ 0 ∧ ∀ j, own_vt j → j.toInt < rc.toInt → own_g R j ≠ v) ∧ its' = [(own_obj Z "com/example/strandwise/strandwise/network/SearchState" ns_SearchState [(.ref (n0 + 1)), (.ref (n0 + 2)), (.ref (n0 + 3)), (.ref (n0 + 6)), (.int (0 : Int32))]), (own_la Z D), (own_ia Z .byte S'), (own_obj Z "com/example/strandwise/strandwise/network/VertexHeap" ns_VertexHeap [(.ref (n0 + 1)), (.ref (n0 + 4)), (.ref (n0 + 5)), (.int (0 : Int32))]), (own_ia Z .int H), (own_ia Z .int Q), (own_ia Z .int R)]) := by
  refine own_met.of pf_gK ?_
  intro p e s m below meth c T0 hx hby hml hret hlk hZ hown hnm A0
  replace hown : s.vm.findClass "com/example/strandwise/strandwise/network/SearchState" = some m.cls := hown
  replace hml : c.maxLocals = 2 := hml
  rw [ef_gK m n0]
  show own_go _ _ _ _ _ _ _ (T0.setTop (mkF m 0 #[.val (.ref (n0 + 0)), .unset] []))
  refine own_by (u' := T0.setTop (mkF m 1 #[.val (.ref (n0 + 0)), .unset] [(.ref (n0 + 0))])) (fun _ k => XS.aloadN A0.here hx rfl (own_db hby d_prog_51_method_2_0) rfl rfl k) ?_
  refine own_getF A0 hx hZ hown (hw _ (List.mem_of_getElem? (i := 30) rfl)) (i := 0) rfl 2 rfl rfl (own_db hby d_prog_51_method_2_1) ?_
  intro T1 A2
  show own_go _ _ _ _ _ _ _ (T1.setTop (mkF m 4 #[.val (.ref (n0 + 0)), .unset] [(.ref (n0 + 3))]))
  refine own_callV (y := (⟨"com/example/strandwise/strandwise/network/VertexHeap", "clear", "()V"⟩ : MethodName)) (rest := []) A2 hx hZ hown (hw _ (List.mem_of_getElem? (i := 84) rfl)) (hw _ (List.mem_of_getElem? (i := 85) rfl)) (hw _ (List.mem_of_getElem? (i := 87) rfl)) (hw _ (List.mem_of_getElem? (i := 86) rfl)) (hw _ (List.mem_of_getElem? (i := 18) rfl)) (hw _ (List.mem_of_getElem? (i := 88) rfl)) (by decide) (i := 3) rfl (gVK l Z a0 hw n0 D S H Q R rc sz) (by rw [hml]; rfl) [] rfl rfl pd___V rfl (W := 0) (by show 2 * 0 + _ ≤ _; exact Nat.le_of_eq rfl) (own_db hby d_prog_51_method_2_4) (by decide) (by decide) (by decide) (by decide) ?_
  intro v3 i4 T6 hq5 A7
  obtain ⟨rfl, he8⟩ := hq5
  rw [he8] at A7
  replace A7 : own_at p l e _ s m _ below meth c n0 T6 0 0 [(own_obj Z "com/example/strandwise/strandwise/network/SearchState" ns_SearchState [(.ref (n0 + 1)), (.ref (n0 + 2)), (.ref (n0 + 3)), (.ref (n0 + 6)), (.int rc)]), (own_la Z D), (own_ia Z .byte S), (own_obj Z "com/example/strandwise/strandwise/network/VertexHeap" ns_VertexHeap [(.ref (n0 + 1)), (.ref (n0 + 4)), (.ref (n0 + 5)), (.int (0 : Int32))]), (own_ia Z .int H), (own_ia Z .int Q), (own_ia Z .int R)] := A7
  show own_go _ _ _ _ _ _ _ (T6.setTop (mkF m 7 #[.val (.ref (n0 + 0)), .unset] []))
  refine own_by (u' := T6.setTop (mkF m 8 #[.val (.ref (n0 + 0)), .unset] [(.int (0 : Int32))])) (fun _ k => XS.iconst A7.here hx rfl (own_db hby d_prog_51_method_2_7) k) ?_
  refine own_by (u' := T6.setTop (mkF m 9 #[.val (.ref (n0 + 0)), .val (.int (0 : Int32))] [])) (fun _ k => XS.istoreN A7.here hx rfl (own_db hby d_prog_51_method_2_8) rfl (l' := #[.val (.ref (n0 + 0)), .val (.int (0 : Int32))]) rfl k) ?_
  have lp9 : ∀ (k : Nat) (T10 : State) (ii : Int32) (S1 : List Int32), own_at p l e ({ frames := 1, cells := 0, slots := 0, locals := 12 } : Room) s m #[(.ref (n0 + 0))] below meth c n0 T10 0 0 [(own_obj Z "com/example/strandwise/strandwise/network/SearchState" ns_SearchState [(.ref (n0 + 1)), (.ref (n0 + 2)), (.ref (n0 + 3)), (.ref (n0 + 6)), (.int rc)]), (own_la Z D), (own_ia Z .byte S1), (own_obj Z "com/example/strandwise/strandwise/network/VertexHeap" ns_VertexHeap [(.ref (n0 + 1)), (.ref (n0 + 4)), (.ref (n0 + 5)), (.int (0 : Int32))]), (own_ia Z .int H), (own_ia Z .int Q), (own_ia Z .int R)] → (0 ≤ ii.toInt ∧ ii.toInt + ((k : Nat) : Int) = rc.toInt) → (S1.length = 3) → (∀ v, own_vt v → own_g S1 v ≠ 0 → own_g S v ≠ 0 ∧ ∀ j, own_vt j → j.toInt < ii.toInt → own_g R j ≠ v) → own_go p e ({ frames := 1, cells := 0, slots := 0, locals := 12 } : Room) s below n0 (fun v its' => v = none ∧ ∃ S', S'.length = 3 ∧ (∀ v, own_vt v → own_g S' v ≠ 0 → own_g S v ≠ 0 ∧ ∀ j, own_vt j → j.toInt < rc.toInt → own_g R j ≠ v) ∧ its' = [(own_obj Z "com/example/strandwise/strandwise/network/SearchState" ns_SearchState [(.ref (n0 + 1)), (.ref (n0 + 2)), (.ref (n0 + 3)), (.ref (n0 + 6)), (.int (0 : Int32))]), (own_la Z D), (own_ia Z .byte S'), (own_obj Z "com/example/strandwise/strandwise/network/VertexHeap" ns_VertexHeap [(.ref (n0 + 1)), (.ref (n0 + 4)), (.ref (n0 + 5)), (.int (0 : Int32))]), (own_ia Z .int H), (own_ia Z .int Q), (own_ia Z .int R)]) (T10.setTop (mkF m 9 #[.val (.ref (n0 + 0)), .val (.int ii)] [])) := by
    intro k
    induction k with
    | zero =>
      intro T10 ii S1 A11 hi hS1 hz
      refine own_by (u' := T10.setTop (mkF m 10 #[.val (.ref (n0 + 0)), .val (.int ii)] [(.int ii)])) (fun _ k => XS.iloadN A11.here hx rfl (own_db hby d_prog_51_method_2_9) rfl k) ?_
      refine own_by (u' := T10.setTop (mkF m 11 #[.val (.ref (n0 + 0)), .val (.int ii)] [(.ref (n0 + 0)), (.int ii)])) (fun _ k => XS.aloadN A11.here hx rfl (own_db hby d_prog_51_method_2_10) rfl rfl k) ?_
      refine own_getF A11 hx hZ hown (hw _ (List.mem_of_getElem? (i := 44) rfl)) (i := 0) rfl 4 rfl rfl (own_db hby d_prog_51_method_2_11) ?_
      intro T13 A14
      show own_go _ _ _ _ _ _ _ (T13.setTop (mkF m 14 #[.val (.ref (n0 + 0)), .val (.int ii)] [(.int rc), (.int ii)]))
      refine own_by (u' := T13.setTop (mkF m 35 #[.val (.ref (n0 + 0)), .val (.int ii)] [])) (fun _ k => XS.icmpYes A14.here hx rfl (pc0 := 14) (pc' := 35) rfl (own_db hby d_prog_51_method_2_14) rfl (flt (own_cz hi)).2.1 (by decide) (by decide) k) ?_
      refine own_by (u' := T13.setTop (mkF m 36 #[.val (.ref (n0 + 0)), .val (.int ii)] [(.ref (n0 + 0))])) (fun _ k => XS.aloadN A14.here hx rfl (own_db hby d_prog_51_method_2_35) rfl rfl k) ?_
      refine own_by (u' := T13.setTop (mkF m 37 #[.val (.ref (n0 + 0)), .val (.int ii)] [(.int (0 : Int32)), (.ref (n0 + 0))])) (fun _ k => XS.iconst A14.here hx rfl (own_db hby d_prog_51_method_2_36) k) ?_
      refine own_putF A14 hx hZ hown (hw _ (List.mem_of_getElem? (i := 44) rfl)) (i := 0) rfl 4 rfl (v' := (.int (0 : Int32))) rfl (ap_ns_SearchState hw) (Or.inl (hw _ (List.mem_of_getElem? (i := 45) rfl))) (hw _ (List.mem_of_getElem? (i := 2) rfl)) (ty := .int) (by decide) rfl rfl (own_db hby d_prog_51_method_2_37) (its2 := [(own_obj Z "com/example/strandwise/strandwise/network/SearchState" ns_SearchState [(.ref (n0 + 1)), (.ref (n0 + 2)), (.ref (n0 + 3)), (.ref (n0 + 6)), (.int (0 : Int32))]), (own_la Z D), (own_ia Z .byte S1), (own_obj Z "com/example/strandwise/strandwise/network/VertexHeap" ns_VertexHeap [(.ref (n0 + 1)), (.ref (n0 + 4)), (.ref (n0 + 5)), (.int (0 : Int32))]), (own_ia Z .int H), (own_ia Z .int Q), (own_ia Z .int R)]) rfl ?_
      intro T15 A16
      show own_go _ _ _ _ _ _ _ (T15.setTop (mkF m 40 #[.val (.ref (n0 + 0)), .val (.int ii)] []))
      exact own_retV A16 hx hlk hret (own_db hby d_prog_51_method_2_40) (by decide) (by decide) ⟨rfl, _, hS1, fun v hv q => ⟨(hz v hv q).1, fun j hj hl => (hz v hv q).2 j hj (by omega)⟩, rfl⟩
    | succ k ih12 =>
      intro T10 ii S1 A11 hi hS1 hz
      refine own_by (u' := T10.setTop (mkF m 10 #[.val (.ref (n0 + 0)), .val (.int ii)] [(.int ii)])) (fun _ k => XS.iloadN A11.here hx rfl (own_db hby d_prog_51_method_2_9) rfl k) ?_
      refine own_by (u' := T10.setTop (mkF m 11 #[.val (.ref (n0 + 0)), .val (.int ii)] [(.ref (n0 + 0)), (.int ii)])) (fun _ k => XS.aloadN A11.here hx rfl (own_db hby d_prog_51_method_2_10) rfl rfl k) ?_
      refine own_getF A11 hx hZ hown (hw _ (List.mem_of_getElem? (i := 44) rfl)) (i := 0) rfl 4 rfl rfl (own_db hby d_prog_51_method_2_11) ?_
      intro T17 A18
      show own_go _ _ _ _ _ _ _ (T17.setTop (mkF m 14 #[.val (.ref (n0 + 0)), .val (.int ii)] [(.int rc), (.int ii)]))
      refine own_by (u' := T17.setTop (mkF m 17 #[.val (.ref (n0 + 0)), .val (.int ii)] [])) (fun _ k => XS.icmpNo A18.here hx rfl (own_db hby d_prog_51_method_2_14) rfl (tlt (own_cs hi)).2.1 k) ?_
      refine own_by (u' := T17.setTop (mkF m 18 #[.val (.ref (n0 + 0)), .val (.int ii)] [(.ref (n0 + 0))])) (fun _ k => XS.aloadN A18.here hx rfl (own_db hby d_prog_51_method_2_17) rfl rfl k) ?_
      refine own_getF A18 hx hZ hown (hw _ (List.mem_of_getElem? (i := 14) rfl)) (i := 0) rfl 1 rfl rfl (own_db hby d_prog_51_method_2_18) ?_
      intro T19 A20
      show own_go _ _ _ _ _ _ _ (T19.setTop (mkF m 21 #[.val (.ref (n0 + 0)), .val (.int ii)] [(.ref (n0 + 2))]))
      refine own_by (u' := T19.setTop (mkF m 22 #[.val (.ref (n0 + 0)), .val (.int ii)] [(.ref (n0 + 0)), (.ref (n0 + 2))])) (fun _ k => XS.aloadN A20.here hx rfl (own_db hby d_prog_51_method_2_21) rfl rfl k) ?_
      refine own_getF A20 hx hZ hown (hw _ (List.mem_of_getElem? (i := 32) rfl)) (i := 0) rfl 3 rfl rfl (own_db hby d_prog_51_method_2_22) ?_
      intro T21 A22
      show own_go _ _ _ _ _ _ _ (T21.setTop (mkF m 25 #[.val (.ref (n0 + 0)), .val (.int ii)] [(.ref (n0 + 6)), (.ref (n0 + 2))]))
      refine own_by (u' := T21.setTop (mkF m 26 #[.val (.ref (n0 + 0)), .val (.int ii)] [(.int ii), (.ref (n0 + 6)), (.ref (n0 + 2))])) (fun _ k => XS.iloadN A22.here hx rfl (own_db hby d_prog_51_method_2_25) rfl k) ?_
      refine own_iaload A22 hx hZ (i := 6) rfl (x := (own_g R ii)) (own_rd hR (own_cnx hrc.2 hi).1.1 (own_cnx hrc.2 hi).1.2) (own_db hby d_prog_51_method_2_26) ?_
      show own_go _ _ _ _ _ _ _ (T21.setTop (mkF m 27 #[.val (.ref (n0 + 0)), .val (.int ii)] [(.int (own_g R ii)), (.ref (n0 + 2))]))
      refine own_by (u' := T21.setTop (mkF m 28 #[.val (.ref (n0 + 0)), .val (.int ii)] [(.int (0 : Int32)), (.int (own_g R ii)), (.ref (n0 + 2))])) (fun _ k => XS.iconst A22.here hx rfl (own_db hby d_prog_51_method_2_27) k) ?_
      refine own_bastore A22 hx hZ (i := 2) rfl ((own_g R ii).toNatClampNeg) (own_ix3 hS1 (own_vtg hR hrv (own_cnx hrc.2 hi).1)) (own_db hby d_prog_51_method_2_28) (its2 := [(own_obj Z "com/example/strandwise/strandwise/network/SearchState" ns_SearchState [(.ref (n0 + 1)), (.ref (n0 + 2)), (.ref (n0 + 3)), (.ref (n0 + 6)), (.int rc)]), (own_la Z D), (own_ia Z .byte (S1.set (own_g R ii).toNatClampNeg (0 : Int32))), (own_obj Z "com/example/strandwise/strandwise/network/VertexHeap" ns_VertexHeap [(.ref (n0 + 1)), (.ref (n0 + 4)), (.ref (n0 + 5)), (.int (0 : Int32))]), (own_ia Z .int H), (own_ia Z .int Q), (own_ia Z .int R)]) rfl ?_
      intro T23 A24
      show own_go _ _ _ _ _ _ _ (T23.setTop (mkF m 29 #[.val (.ref (n0 + 0)), .val (.int ii)] []))
      refine own_by (u' := T23.setTop (mkF m 32 #[.val (.ref (n0 + 0)), .val (.int (ii + (1 : Int32)))] [])) (fun _ k => XS.iinc A24.here hx rfl (own_db hby d_prog_51_method_2_29) rfl (l' := #[.val (.ref (n0 + 0)), .val (.int (ii + (1 : Int32)))]) rfl k) ?_
      refine own_by (u' := T23.setTop (mkF m 9 #[.val (.ref (n0 + 0)), .val (.int (ii + (1 : Int32)))] [])) (fun _ k => XS.goto A24.here hx rfl (pc0 := 32) (pc' := 9) rfl (own_db hby d_prog_51_method_2_32) (by decide) (by decide) k) ?_
      exact ih12 _ (ii + (1 : Int32)) ((S1.set (own_g R ii).toNatClampNeg (0 : Int32))) A24 (own_cnx hrc.2 hi).2 (own_len3 hS1) (own_cl hS1 (own_cnx hrc.2 hi).1 (own_vtg hR hrv (own_cnx hrc.2 hi).1) hz)
  exact lp9 (rc.toInt.toNat) _ (0 : Int32) (S) A7 ⟨by decide, by rw [show (0 : Int32).toInt = 0 from rfl]; omega⟩ hS (fun v hv q => ⟨q, fun j hj hl => absurd hl (by rw [show (0 : Int32).toInt = 0 from rfl]; have := hj.1; omega)⟩)
theorem d_prog_51_method_7_0 : decode prog_51_method_7_code 0 = .ok (.aload_n 0, 1) := by decide +kernel
theorem d_prog_51_method_7_1 : decode prog_51_method_7_code 1 = .ok (.getfield 13, 3) := by decide +kernel
theorem d_prog_51_method_7_4 : decode prog_51_method_7_code 4 = .ok (.iload_n 1, 1) := by decide +kernel
theorem d_prog_51_method_7_5 : decode prog_51_method_7_code 5 = .ok (.baload, 1) := by decide +kernel
theorem d_prog_51_method_7_6 : decode prog_51_method_7_code 6 = .ok (.ifCond .eq 7, 3) := by decide +kernel
theorem d_prog_51_method_7_13 : decode prog_51_method_7_code 13 = .ok (.iconst 0, 1) := by decide +kernel
theorem d_prog_51_method_7_14 : decode prog_51_method_7_code 14 = .ok (.ireturn, 1) := by decide +kernel
theorem d_prog_51_method_7_9 : decode prog_51_method_7_code 9 = .ok (.iconst 1, 1) := by decide +kernel
theorem d_prog_51_method_7_10 : decode prog_51_method_7_code 10 = .ok (.goto 4, 3) := by decide +kernel
def fR (S : List Int32) (vx : Int32) : Int32 := if (own_g S vx) = (0 : Int32) then (0 : Int32)
  else (1 : Int32)
theorem pf_gR : plainFor (⟨"com/example/strandwise/strandwise/network/SearchState", "isReached", "(I)Z"⟩ : MethodName) = true := by first | exact plainFor_of_name (by first | (simp [plainName, overriddenIn]; done) | decide +kernel) | decide +kernel
theorem ef_gR (m : MethodId) (n0 : Nat) (vx : Int32) : entryFrame m #[(.ref (n0 + 0)), (.int vx)] 2 = (mkF m 0 #[.val (.ref (n0 + 0)), .val (.int vx)] []) := by first | (simp [entryFrame, mkF, argsToLocals, Value.category]; done) | rfl
set_option maxRecDepth 65536 in
set_option maxHeartbeats 40000000 in
theorem gR (l : Launch) (Z : State) (a0 : Array Value) (hw : ∀ d ∈ tables_1, d.before a0 Z = true) (n0 : Nat) (D : List Int64) (S : List Int32) (H : List Int32) (Q : List Int32) (R : List Int32) (rc : Int32) (sz : Int32) (vx : Int32) (hS : S.length = 3) (hv : own_vt vx) :
    own_met l Z n0 (⟨"com/example/strandwise/strandwise/network/SearchState", "isReached", "(I)Z"⟩ : MethodName) prog_51_method_7_code 2 (some .boolean) ({ frames := 0, cells := 0, slots := 0, locals := 0 } : Room) #[(.ref (n0 + 0)), (.int vx)] [(own_obj Z "com/example/strandwise/strandwise/network/SearchState" ns_SearchState [(.ref (n0 + 1)), (.ref (n0 + 2)), (.ref (n0 + 3)), (.ref (n0 + 6)), (.int rc)]), (own_la Z D), (own_ia Z .byte S), (own_obj Z "com/example/strandwise/strandwise/network/VertexHeap" ns_VertexHeap [(.ref (n0 + 1)), (.ref (n0 + 4)), (.ref (n0 + 5)), (.int sz)]), (own_ia Z .int H), (own_ia Z .int Q), (own_ia Z .int R)] (fun v its' => v = some (.int (fR S vx)) ∧ its' = [(own_obj Z "com/example/strandwise/strandwise/network/SearchState" ns_SearchState [(.ref (n0 + 1)), (.ref (n0 + 2)), (.ref (n0 + 3)), (.ref (n0 + 6)), (.int rc)]), (own_la Z D), (own_ia Z .byte S), (own_obj Z "com/example/strandwise/strandwise/network/VertexHeap" ns_VertexHeap [(.ref (n0 + 1)), (.ref (n0 + 4)), (.ref (n0 + 5)), (.int sz)]), (own_ia Z .int H), (own_ia Z .int Q), (own_ia Z .int R)]) := by
  refine own_met.of pf_gR ?_
  intro p e s m below meth c T0 hx hby hml hret hlk hZ hown hnm A0
  replace hown : s.vm.findClass "com/example/strandwise/strandwise/network/SearchState" = some m.cls := hown
  replace hml : c.maxLocals = 2 := hml
  rw [ef_gR m n0 vx]
  show own_go _ _ _ _ _ _ _ (T0.setTop (mkF m 0 #[.val (.ref (n0 + 0)), .val (.int vx)] []))
  refine own_by (u' := T0.setTop (mkF m 1 #[.val (.ref (n0 + 0)), .val (.int vx)] [(.ref (n0 + 0))])) (fun _ k => XS.aloadN A0.here hx rfl (own_db hby d_prog_51_method_7_0) rfl rfl k) ?_
  refine own_getF A0 hx hZ hown (hw _ (List.mem_of_getElem? (i := 14) rfl)) (i := 0) rfl 1 rfl rfl (own_db hby d_prog_51_method_7_1) ?_
  intro T1 A2
  show own_go _ _ _ _ _ _ _ (T1.setTop (mkF m 4 #[.val (.ref (n0 + 0)), .val (.int vx)] [(.ref (n0 + 2))]))
  refine own_by (u' := T1.setTop (mkF m 5 #[.val (.ref (n0 + 0)), .val (.int vx)] [(.int vx), (.ref (n0 + 2))])) (fun _ k => XS.iloadN A2.here hx rfl (own_db hby d_prog_51_method_7_4) rfl k) ?_
  refine own_baload A2 hx hZ (i := 2) rfl (x := (own_g S vx)) (own_rd hS hv.1 hv.2) (own_db hby d_prog_51_method_7_5) ?_
  show own_go _ _ _ _ _ _ _ (T1.setTop (mkF m 6 #[.val (.ref (n0 + 0)), .val (.int vx)] [(.int (own_g S vx))]))
  by_cases hc3 : (own_g S vx) = (0 : Int32)
  · refine own_by (u' := T1.setTop (mkF m 13 #[.val (.ref (n0 + 0)), .val (.int vx)] [])) (fun _ k => XS.ifYes A2.here hx rfl (pc0 := 6) (pc' := 13) rfl (own_db hby d_prog_51_method_7_6) rfl ((if0 _ _).trans (teq hc3).1) (by decide) (by decide) k) ?_
    refine own_by (u' := T1.setTop (mkF m 14 #[.val (.ref (n0 + 0)), .val (.int vx)] [(.int (0 : Int32))])) (fun _ k => XS.iconst A2.here hx rfl (own_db hby d_prog_51_method_7_13) k) ?_
    exact own_retN A2 hx hlk (t := .boolean) (by simp) hret (own_db hby d_prog_51_method_7_14) (by decide) (by decide) ⟨by rw [show fR S vx = (0 : Int32) from by unfold fR; simp only [if_pos hc3]] <;> rfl, rfl⟩
  · refine own_by (u' := T1.setTop (mkF m 9 #[.val (.ref (n0 + 0)), .val (.int vx)] [])) (fun _ k => XS.ifNo A2.here hx rfl (own_db hby d_prog_51_method_7_6) rfl ((if0 _ _).trans (feq hc3).1) k) ?_
    refine own_by (u' := T1.setTop (mkF m 10 #[.val (.ref (n0 + 0)), .val (.int vx)] [(.int (1 : Int32))])) (fun _ k => XS.iconst A2.here hx rfl (own_db hby d_prog_51_method_7_9) k) ?_
    refine own_by (u' := T1.setTop (mkF m 14 #[.val (.ref (n0 + 0)), .val (.int vx)] [(.int (1 : Int32))])) (fun _ k => XS.goto A2.here hx rfl (pc0 := 10) (pc' := 14) rfl (own_db hby d_prog_51_method_7_10) (by decide) (by decide) k) ?_
    exact own_retN A2 hx hlk (t := .boolean) (by simp) hret (own_db hby d_prog_51_method_7_14) (by decide) (by decide) ⟨by rw [show fR S vx = (1 : Int32) from by unfold fR; simp only [if_neg hc3]] <;> rfl, rfl⟩
def own_cn (S : List Int32) : Int := (if own_g S 0 = 0 then 0 else 1) + (if own_g S 1 = 0 then 0 else 1) + (if own_g S 2 = 0 then 0 else 1)
def own_cov (S R : List Int32) (rc : Int32) : Prop := ∀ v, own_vt v → own_g S v ≠ 0 → ∃ j, own_vt j ∧ j.toInt < rc.toInt ∧ own_g R j = v
/-- what goes through the law -/
def own_iv (S H Q R : List Int32) (rc sz : Int32) : Prop := S.length = 3 ∧ R.length = 3 ∧ (∀ x ∈ R, own_vt x) ∧ own_ok (fun x => own_g S x ≠ 0) sz.toInt H Q ∧ 0 ≤ sz.toInt ∧ sz.toInt ≤ own_cn S ∧ rc.toInt = own_cn S ∧ own_cov S R rc
theorem own_cle (S : List Int32) : 0 ≤ own_cn S ∧ own_cn S ≤ 3 := by
  unfold own_cn
  (repeat' split) <;> omega
theorem own_cnz {S : List Int32} {v : Int32} (hv : own_vt v) (h : own_g S v = 0) : own_cn S ≤ 2 := by
  unfold own_cn
  rcases own_vtc hv with rfl | rfl | rfl <;> rw [if_pos h] <;> (repeat' split) <;> omega
theorem own_set1 {S : List Int32} {v : Int32} (hS : S.length = 3) (hv : own_vt v) (h : own_g S v = 0) : own_cn (S.set v.toNatClampNeg 1) = own_cn S + 1 := by
  unfold own_cn
  rw [own_gset hS hv own_vt0, own_gset hS hv own_vt1, own_gset hS hv own_vt2]
  have n01 : ¬ (0 : Int32) = 1 := by decide
  have n02 : ¬ (0 : Int32) = 2 := by decide
  have n10 : ¬ (1 : Int32) = 0 := by decide
  have n12 : ¬ (1 : Int32) = 2 := by decide
  have n20 : ¬ (2 : Int32) = 0 := by decide
  have n21 : ¬ (2 : Int32) = 1 := by decide
  rcases own_vtc hv with rfl | rfl | rfl <;> simp only [h, n01, n02, n10, n12, n20, n21, if_true, if_false] <;> (repeat' split) <;> omega
theorem own_ivh {S H Q R : List Int32} {rc sz v : Int32} (h : own_iv S H Q R rc sz) (hv : own_vt v) : own_g S v = 0 → own_vt sz ∧ own_vt rc ∧ own_ok (fun x => own_g (S.set v.toNatClampNeg 1) x ≠ 0) sz.toInt H Q ∧ own_g (S.set v.toNatClampNeg 1) v ≠ 0 := by
  intro z
  obtain ⟨a, b, c, d, e0, e1, f, g⟩ := h
  have q := own_cle S
  have q2 := own_cnz hv z
  refine ⟨⟨by omega, by omega⟩, ⟨by omega, by omega⟩, ⟨d.1, d.2.1, d.2.2.1, d.2.2.2.1, fun j hj hl => ?_⟩, by rw [own_gset a hv hv, if_pos rfl]; decide⟩
  have w := d.2.2.2.2 j hj hl
  show own_g (S.set v.toNatClampNeg 1) (own_g H j) ≠ 0
  rw [own_gset a hv (own_okv d hj)]
  split
  · decide
  · exact w
theorem own_covs {S R : List Int32} {rc v : Int32} (hS : S.length = 3) (hR : R.length = 3) (hv : own_vt v) (hrc : own_vt rc) (hc : own_cov S R rc) : own_cov (S.set v.toNatClampNeg 1) (R.set rc.toNatClampNeg v) (rc + (1 : Int32)) := by
  intro w hw hn
  obtain ⟨r1, r2⟩ := hrc
  have q := own_inc (j := rc) 1 1 rfl (by omega) (by omega) (by omega)
  by_cases y : w = v
  · exact ⟨rc, ⟨r1, r2⟩, by omega, by rw [own_gset hR ⟨r1, r2⟩ ⟨r1, r2⟩, if_pos rfl]; exact y.symm⟩
  · rw [own_gset hS hv hw, if_neg y] at hn
    obtain ⟨j, j1, j2, j3⟩ := hc w hw hn
    refine ⟨j, j1, by omega, ?_⟩
    rw [own_gset hR ⟨r1, r2⟩ j1, if_neg (fun z => by subst z; omega)]
    exact j3
theorem own_ivO {S H Q R H' Q' : List Int32} {rc sz v : Int32} (h : own_iv S H Q R rc sz) (hv : own_vt v) (z : own_g S v = 0) (ok : own_ok (fun x => own_g (S.set v.toNatClampNeg 1) x ≠ 0) (sz.toInt + 1) H' Q') : own_iv (S.set v.toNatClampNeg 1) H' Q' (R.set rc.toNatClampNeg v) (rc + (1 : Int32)) (sz + (1 : Int32)) := by
  obtain ⟨k1, k2, -⟩ := own_ivh h hv z
  obtain ⟨a, b, c, d, e0, e1, f, g⟩ := h
  have q := own_set1 a hv z
  have i1 := own_inc (j := sz) 1 1 rfl (by omega) k1.1 (by have := k1.2; omega)
  have i2 := own_inc (j := rc) 1 1 rfl (by omega) k2.1 (by have := k2.2; omega)
  exact ⟨own_len3 a, own_len3 b, own_vts c hv _, by rw [i1]; exact ok, by rw [i1]; omega, by rw [i1]; omega, by rw [i2]; omega, own_covs a b hv k2 g⟩
theorem own_ivz {S H Q R : List Int32} {rc sz v : Int32} (h : own_iv S H Q R rc sz) (hv : own_vt v) (z : own_g S v = 0) (hz : sz.toInt = own_cn S) : (sz + (1 : Int32)).toInt = own_cn (S.set v.toNatClampNeg 1) := by
  obtain ⟨k1, k2, -⟩ := own_ivh h hv z
  have q := own_set1 h.1 hv z
  have i1 := own_inc (j := sz) 1 1 rfl (by omega) k1.1 (by have := k1.2; omega)
  rw [i1]; omega
theorem own_set2 {S : List Int32} {v : Int32} (hS : S.length = 3) (hv : own_vt v) (h : own_g S v ≠ 0) : own_cn (S.set v.toNatClampNeg 2) = own_cn S := by
  unfold own_cn
  rw [own_gset hS hv own_vt0, own_gset hS hv own_vt1, own_gset hS hv own_vt2]
  have n01 : ¬ (0 : Int32) = 1 := by decide
  have n02 : ¬ (0 : Int32) = 2 := by decide
  have n10 : ¬ (1 : Int32) = 0 := by decide
  have n12 : ¬ (1 : Int32) = 2 := by decide
  have n20 : ¬ (2 : Int32) = 0 := by decide
  have n21 : ¬ (2 : Int32) = 1 := by decide
  rcases own_vtc hv with rfl | rfl | rfl <;> simp only [h, n01, n02, n10, n12, n20, n21, if_true, if_false]
theorem own_nz2 {S : List Int32} {v w : Int32} (hS : S.length = 3) (hv : own_vt v) (h : own_g S v ≠ 0) (hw : own_vt w) : own_g (S.set v.toNatClampNeg 2) w = 0 ↔ own_g S w = 0 := by
  rw [own_gset hS hv hw]
  by_cases y : w = v
  · subst y; rw [if_pos rfl]; exact ⟨fun q => absurd q (by decide), fun q => absurd q h⟩
  · rw [if_neg y]
theorem own_ivT {S H Q R H' Q' : List Int32} {rc sz v : Int32} (h : own_iv S H Q R rc sz) (hs : 1 ≤ sz.toInt ∧ sz.toInt ≤ 3) (hv : own_vt v) (z : own_g S v ≠ 0) (ok : own_ok (fun x => own_g S x ≠ 0) (sz - (1 : Int32)).toInt H' Q') : own_iv (S.set v.toNatClampNeg 2) H' Q' R rc (sz - (1 : Int32)) := by
  obtain ⟨a, b, c, d, e0, e1, f, g⟩ := h
  have q := own_set2 a hv z
  have i1 := own_sz1 hs
  refine ⟨own_len3 a, b, c, ⟨ok.1, ok.2.1, ok.2.2.1, ok.2.2.2.1, fun j hj hl y => ?_⟩, by omega, by omega, by omega, fun w hw hn => ?_⟩
  · exact ok.2.2.2.2 j hj hl ((own_nz2 a hv z (own_okv ok hj)).mp y)
  · exact g w hw (fun y => hn ((own_nz2 a hv z hw).mpr y))
theorem own_ivp {S H Q R : List Int32} {rc sz : Int32} (h : own_iv S H Q R rc sz) (hs : 1 ≤ sz.toInt ∧ sz.toInt ≤ 3) : own_g S (own_g H 0) ≠ 0 := h.2.2.2.1.2.2.2.2 0 own_vt0 (by rw [show (0 : Int32).toInt = 0 from rfl]; omega)
theorem own_ivu {S H Q R : List Int32} {rc sz : Int32} (h : own_iv S H Q R rc sz) : sz.toInt ≤ 3 := by
  have q := own_cle S
  have := h.2.2.2.2.2.1
  omega
theorem own_allz {S S' R : List Int32} {rc : Int32} (hc : own_cov S R rc) (h : ∀ v, own_vt v → own_g S' v ≠ 0 → own_g S v ≠ 0 ∧ ∀ j, own_vt j → j.toInt < rc.toInt → own_g R j ≠ v) : ∀ v, own_vt v → own_g S' v = 0 := fun v hv => by
  apply Classical.byContradiction
  intro n
  obtain ⟨a, b⟩ := h v hv n
  obtain ⟨j, j1, j2, j3⟩ := hc v hv a
  exact b j j1 j2 j3
theorem own_ivK {S H Q R S' : List Int32} {rc sz : Int32} (h : own_iv S H Q R rc sz) (hS' : S'.length = 3) (hz : ∀ v, own_vt v → own_g S' v = 0) : own_iv S' H Q R (0 : Int32) (0 : Int32) := by
  obtain ⟨a, b, c, d, e1, f, g, k⟩ := h
  have q : own_cn S' = 0 := by unfold own_cn; rw [if_pos (hz 0 own_vt0), if_pos (hz 1 own_vt1), if_pos (hz 2 own_vt2)]; rfl
  have e0 : (0 : Int32).toInt = 0 := rfl
  refine ⟨hS', b, c, ⟨d.1, d.2.1, d.2.2.1, d.2.2.2.1, fun j hj hl => ?_⟩, by decide, by rw [q, e0]; exact Int.le_refl _, by rw [q, e0], fun v hv n => absurd (hz v hv) n⟩
  have := hj.1; rw [e0] at hl; omega
theorem own_rcb {S H Q R : List Int32} {rc sz : Int32} (h : own_iv S H Q R rc sz) : 0 ≤ rc.toInt ∧ rc.toInt ≤ 3 := by
  obtain ⟨a, b, c, d, e1, f, g, k⟩ := h
  have q := own_cle S
  omega
theorem own_ivi : own_iv [0, 0, 0] [0, 0, 0] [0, 0, 0] [0, 0, 0] 0 0 := by
  have v0 : ∀ x ∈ ([0, 0, 0] : List Int32), own_vt x := by
    intro x hx
    simp only [List.mem_cons, List.not_mem_nil, or_false, or_self] at hx
    subst hx; exact own_vt0
  refine ⟨rfl, rfl, v0, ⟨rfl, rfl, v0, v0, fun j hj hl => ?_⟩, by decide, by decide, by decide, fun v hv n => ?_⟩
  · have e0 : (0 : Int32).toInt = 0 := rfl
    have := hj.1; rw [e0] at hl; omega
  · rcases own_vtc hv with rfl | rfl | rfl <;> exact absurd (by decide) n
theorem own_1le {S : List Int32} {v : Int32} (hv : own_vt v) (h : own_g S v ≠ 0) : 1 ≤ own_cn S := by
  unfold own_cn
  rcases own_vtc hv with rfl | rfl | rfl <;> rw [if_neg h] <;> (repeat' split) <;> omega
theorem own_ot {S : List Int32} {v o : Int32} (hS : S.length = 3) (hv : own_vt v) (ho : o = 0 ∨ o = 1) (hn : ¬ o = 0) : own_g (S.set v.toNatClampNeg 1) v = o := by
  rw [own_gset hS hv hv, if_pos rfl]; exact (ho.resolve_left hn).symm
theorem own_os {S : List Int32} {v w r : Int32} (hS : S.length = 3) (hv : own_vt v) (hw : own_vt w) (hne : ¬ w = v) (h : own_g S w = r) : own_g (S.set v.toNatClampNeg 1) w = r := by
  rw [own_gset hS hv hw, if_neg hne]; exact h

theorem own_offW (Z : State) (n0 : Nat) {S R : List Int32} {rc sz vx : Int32} {Pr2 : Int32 → Prop} {its' : List (Cell → Prop)} (hS : S.length = 3) (hv : own_vt vx) (hA : own_g S vx = 0 → ∃ D' H' Q', D'.length = 3 ∧ own_ok Pr2 (sz.toInt + 1) H' Q' ∧ its' = [(own_obj Z "com/example/strandwise/strandwise/network/SearchState" ns_SearchState [(.ref (n0 + 1)), (.ref (n0 + 2)), (.ref (n0 + 3)), (.ref (n0 + 6)), (.int (rc + (1 : Int32)))]), (own_la Z D'), (own_ia Z .byte (S.set vx.toNatClampNeg (1 : Int32))), (own_obj Z "com/example/strandwise/strandwise/network/VertexHeap" ns_VertexHeap [(.ref (n0 + 1)), (.ref (n0 + 4)), (.ref (n0 + 5)), (.int (sz + (1 : Int32)))]), (own_ia Z .int H'), (own_ia Z .int Q'), (own_ia Z .int (R.set rc.toNatClampNeg vx))]) (hB : own_g S vx ≠ 0 → ∃ D' H' Q', D'.length = 3 ∧ its' = [(own_obj Z "com/example/strandwise/strandwise/network/SearchState" ns_SearchState [(.ref (n0 + 1)), (.ref (n0 + 2)), (.ref (n0 + 3)), (.ref (n0 + 6)), (.int rc)]), (own_la Z D'), (own_ia Z .byte S), (own_obj Z "com/example/strandwise/strandwise/network/VertexHeap" ns_VertexHeap [(.ref (n0 + 1)), (.ref (n0 + 4)), (.ref (n0 + 5)), (.int sz)]), (own_ia Z .int H'), (own_ia Z .int Q'), (own_ia Z .int R)]) :
    ∃ D' S' H' Q' R' rc' sz', S'.length = 3 ∧ (∀ w, own_vt w → (own_g S' w = 0 ↔ (own_g S w = 0 ∧ ¬ vx = w))) ∧ its' = [(own_obj Z "com/example/strandwise/strandwise/network/SearchState" ns_SearchState [(.ref (n0 + 1)), (.ref (n0 + 2)), (.ref (n0 + 3)), (.ref (n0 + 6)), (.int rc')]), (own_la Z D'), (own_ia Z .byte S'), (own_obj Z "com/example/strandwise/strandwise/network/VertexHeap" ns_VertexHeap [(.ref (n0 + 1)), (.ref (n0 + 4)), (.ref (n0 + 5)), (.int sz')]), (own_ia Z .int H'), (own_ia Z .int Q'), (own_ia Z .int R')] := by
  by_cases h : own_g S vx = 0
  · obtain ⟨D', H', Q', -, -, q⟩ := hA h
    refine ⟨D', _, H', Q', _, _, _, own_len3 hS, fun w hw => ?_, q⟩
    rw [own_gset hS hv hw]
    by_cases y : w = vx
    · rw [if_pos y]; exact ⟨fun z => absurd z (by decide), fun z => absurd y.symm z.2⟩
    · rw [if_neg y]; exact ⟨fun z => ⟨z, fun q => y q.symm⟩, fun z => z.1⟩
  · obtain ⟨D', H', Q', -, q⟩ := hB h
    refine ⟨D', S, H', Q', R, rc, sz, hS, fun w hw => ⟨fun z => ⟨z, fun y => ?_⟩, fun z => z.1⟩, q⟩
    subst y; exact h z
theorem own_hs {S H Q R : List Int32} {rc sz v : Int32} (h : own_iv S H Q R rc sz) (hz : sz.toInt = own_cn S) (hv : own_vt v) (h1 : own_g S v ≠ 0) : 1 ≤ sz.toInt ∧ sz.toInt ≤ 3 := by
  have := own_1le hv h1
  exact ⟨by omega, own_ivu h⟩
theorem own_fin {S : List Int32} {v y : Int32} {P : Prop} (d : own_g S v = 0 ↔ P) (he : (y = 0 ∧ P) ∨ (y = 1 ∧ ¬ P)) : fR S v = y := by
  unfold fR
  rcases he with ⟨rfl, h⟩ | ⟨rfl, h⟩
  · rw [if_pos (d.mpr h)]
  · rw [if_neg (fun z => h (d.mp z))]
theorem pd__I_Z : parseMethodDescriptor "(I)Z" = some ⟨[.int], some .boolean⟩ := by decide +kernel
theorem pd__IJ_Z : parseMethodDescriptor "(IJ)Z" = some ⟨[.int, .long], some .boolean⟩ := by decide +kernel
theorem pf_g0 : plainFor x = true := by first | exact plainFor_of_name (by first | (simp [plainName, overriddenIn]; done) | decide +kernel) | decide +kernel
theorem ef_g0 (m : MethodId) (x1 : Int32) (x2 : Int32) (x3 : Int64) (x4 : Int64) (x5 : Int64) : entryFrame m #[(.int x1), (.int x2), (.long x3), (.long x4), (.long x5)] maxLocals = (mkF m 0 #[.val (.int x1), .val (.int x2), .val (.long x3), .second, .val (.long x4), .second, .val (.long x5), .second, .unset, .unset, .unset, .unset, .unset, .unset, .unset, .unset, .unset, .unset, .unset] []) := by first | (simp [entryFrame, mkF, argsToLocals, Value.category, maxLocals]; done) | rfl
set_option maxRecDepth 65536 in
set_option maxHeartbeats 40000000 in
theorem g0 (l : Launch) (Z : State) (a0 : Array Value) (hw : ∀ d ∈ tables_1, d.before a0 Z = true) (n0 : Nat) (x1 : Int32) (x2 : Int32) (x3 : Int64) (x4 : Int64) (x5 : Int64)  :
    own_met l Z n0 x code maxLocals ret room_1 #[(.int x1), (.int x2), (.long x3), (.long x4), (.long x5)] [] (fun v _ => v = some (.int 1) ∧ True) := by
  refine own_met.of pf_g0 ?_
  intro p e s m below meth c T0 hx hby hml hret hlk hZ hown hnm A0
  replace hown : s.vm.findClass "com/example/strandwise/strandwise/network/SearchStateIsReachedPinLaw" = some m.cls := hown
  replace hml : c.maxLocals = 19 := hml
  rw [ef_g0 m x1 x2 x3 x4 x5]
  show own_go _ _ _ _ _ _ _ (T0.setTop (mkF m 0 #[.val (.int x1), .val (.int x2), .val (.long x3), .second, .val (.long x4), .second, .val (.long x5), .second, .unset, .unset, .unset, .unset, .unset, .unset, .unset, .unset, .unset, .unset, .unset] []))
  refine own_by (u' := T0.setTop (mkF m 1 #[.val (.int x1), .val (.int x2), .val (.long x3), .second, .val (.long x4), .second, .val (.long x5), .second, .unset, .unset, .unset, .unset, .unset, .unset, .unset, .unset, .unset, .unset, .unset] [(.int x1)])) (fun _ k => XS.iloadN A0.here hx rfl (own_db hby at_0) rfl k) ?_
  refine own_by (u' := T0.setTop (mkF m 2 #[.val (.int x1), .val (.int x2), .val (.long x3), .second, .val (.long x4), .second, .val (.long x5), .second, .unset, .unset, .unset, .unset, .unset, .unset, .unset, .unset, .unset, .unset, .unset] [(.int (1 : Int32)), (.int x1)])) (fun _ k => XS.iconst A0.here hx rfl (own_db hby at_1) k) ?_
  refine own_by (u' := T0.setTop (mkF m 3 #[.val (.int x1), .val (.int x2), .val (.long x3), .second, .val (.long x4), .second, .val (.long x5), .second, .unset, .unset, .unset, .unset, .unset, .unset, .unset, .unset, .unset, .unset, .unset] [(.int (x1 &&& (1 : Int32)))])) (fun _ k => XS.iand A0.here hx rfl (own_db hby at_2) rfl k) ?_
  have J1 : ∀ (T2 : State) (o0 : Int32), own_at p l e room_1 s m #[(.int x1), (.int x2), (.long x3), (.long x4), (.long x5)] below meth c n0 T2 0 0 [] → (o0 = 0 ∨ o0 = 1) → own_go p e room_1 s below n0 (fun v _ => v = some (.int 1) ∧ True) (T2.setTop (mkF m 11 #[.val (.int x1), .val (.int x2), .val (.long x3), .second, .val (.long x4), .second, .val (.long x5), .second, .unset, .unset, .unset, .unset, .unset, .unset, .unset, .unset, .unset, .unset, .unset] [(.int o0)])) := by
    intro T2 o0 A3 ho0
    refine own_by (u' := T2.setTop (mkF m 13 #[.val (.int x1), .val (.int x2), .val (.long x3), .second, .val (.long x4), .second, .val (.long x5), .second, .val (.int o0), .unset, .unset, .unset, .unset, .unset, .unset, .unset, .unset, .unset, .unset] [])) (fun _ k => XS.istore A3.here hx rfl (own_db hby at_11) rfl (l' := #[.val (.int x1), .val (.int x2), .val (.long x3), .second, .val (.long x4), .second, .val (.long x5), .second, .val (.int o0), .unset, .unset, .unset, .unset, .unset, .unset, .unset, .unset, .unset, .unset]) rfl k) ?_
    refine own_by (u' := T2.setTop (mkF m 14 #[.val (.int x1), .val (.int x2), .val (.long x3), .second, .val (.long x4), .second, .val (.long x5), .second, .val (.int o0), .unset, .unset, .unset, .unset, .unset, .unset, .unset, .unset, .unset, .unset] [(.int x1)])) (fun _ k => XS.iloadN A3.here hx rfl (own_db hby at_13) rfl k) ?_
    refine own_by (u' := T2.setTop (mkF m 15 #[.val (.int x1), .val (.int x2), .val (.long x3), .second, .val (.long x4), .second, .val (.long x5), .second, .val (.int o0), .unset, .unset, .unset, .unset, .unset, .unset, .unset, .unset, .unset, .unset] [(.int (2 : Int32)), (.int x1)])) (fun _ k => XS.iconst A3.here hx rfl (own_db hby at_14) k) ?_
    refine own_by (u' := T2.setTop (mkF m 16 #[.val (.int x1), .val (.int x2), .val (.long x3), .second, .val (.long x4), .second, .val (.long x5), .second, .val (.int o0), .unset, .unset, .unset, .unset, .unset, .unset, .unset, .unset, .unset, .unset] [(.int (x1 &&& (2 : Int32)))])) (fun _ k => XS.iand A3.here hx rfl (own_db hby at_15) rfl k) ?_
    have J4 : ∀ (T5 : State) (o1 : Int32), own_at p l e room_1 s m #[(.int x1), (.int x2), (.long x3), (.long x4), (.long x5)] below meth c n0 T5 0 0 [] → (o1 = 0 ∨ o1 = 1) → own_go p e room_1 s below n0 (fun v _ => v = some (.int 1) ∧ True) (T5.setTop (mkF m 24 #[.val (.int x1), .val (.int x2), .val (.long x3), .second, .val (.long x4), .second, .val (.long x5), .second, .val (.int o0), .unset, .unset, .unset, .unset, .unset, .unset, .unset, .unset, .unset, .unset] [(.int o1)])) := by
      intro T5 o1 A6 ho1
      refine own_by (u' := T5.setTop (mkF m 26 #[.val (.int x1), .val (.int x2), .val (.long x3), .second, .val (.long x4), .second, .val (.long x5), .second, .val (.int o0), .val (.int o1), .unset, .unset, .unset, .unset, .unset, .unset, .unset, .unset, .unset] [])) (fun _ k => XS.istore A6.here hx rfl (own_db hby at_24) rfl (l' := #[.val (.int x1), .val (.int x2), .val (.long x3), .second, .val (.long x4), .second, .val (.long x5), .second, .val (.int o0), .val (.int o1), .unset, .unset, .unset, .unset, .unset, .unset, .unset, .unset, .unset]) rfl k) ?_
      refine own_by (u' := T5.setTop (mkF m 27 #[.val (.int x1), .val (.int x2), .val (.long x3), .second, .val (.long x4), .second, .val (.long x5), .second, .val (.int o0), .val (.int o1), .unset, .unset, .unset, .unset, .unset, .unset, .unset, .unset, .unset] [(.int x1)])) (fun _ k => XS.iloadN A6.here hx rfl (own_db hby at_26) rfl k) ?_
      refine own_by (u' := T5.setTop (mkF m 28 #[.val (.int x1), .val (.int x2), .val (.long x3), .second, .val (.long x4), .second, .val (.long x5), .second, .val (.int o0), .val (.int o1), .unset, .unset, .unset, .unset, .unset, .unset, .unset, .unset, .unset] [(.int (4 : Int32)), (.int x1)])) (fun _ k => XS.iconst A6.here hx rfl (own_db hby at_27) k) ?_
      refine own_by (u' := T5.setTop (mkF m 29 #[.val (.int x1), .val (.int x2), .val (.long x3), .second, .val (.long x4), .second, .val (.long x5), .second, .val (.int o0), .val (.int o1), .unset, .unset, .unset, .unset, .unset, .unset, .unset, .unset, .unset] [(.int (x1 &&& (4 : Int32)))])) (fun _ k => XS.iand A6.here hx rfl (own_db hby at_28) rfl k) ?_
      have J7 : ∀ (T8 : State) (o2 : Int32), own_at p l e room_1 s m #[(.int x1), (.int x2), (.long x3), (.long x4), (.long x5)] below meth c n0 T8 0 0 [] → (o2 = 0 ∨ o2 = 1) → own_go p e room_1 s below n0 (fun v _ => v = some (.int 1) ∧ True) (T8.setTop (mkF m 37 #[.val (.int x1), .val (.int x2), .val (.long x3), .second, .val (.long x4), .second, .val (.long x5), .second, .val (.int o0), .val (.int o1), .unset, .unset, .unset, .unset, .unset, .unset, .unset, .unset, .unset] [(.int o2)])) := by
        intro T8 o2 A9 ho2
        refine own_by (u' := T8.setTop (mkF m 39 #[.val (.int x1), .val (.int x2), .val (.long x3), .second, .val (.long x4), .second, .val (.long x5), .second, .val (.int o0), .val (.int o1), .val (.int o2), .unset, .unset, .unset, .unset, .unset, .unset, .unset, .unset] [])) (fun _ k => XS.istore A9.here hx rfl (own_db hby at_37) rfl (l' := #[.val (.int x1), .val (.int x2), .val (.long x3), .second, .val (.long x4), .second, .val (.long x5), .second, .val (.int o0), .val (.int o1), .val (.int o2), .unset, .unset, .unset, .unset, .unset, .unset, .unset, .unset]) rfl k) ?_
        refine own_by (u' := T8.setTop (mkF m 40 #[.val (.int x1), .val (.int x2), .val (.long x3), .second, .val (.long x4), .second, .val (.long x5), .second, .val (.int o0), .val (.int o1), .val (.int o2), .unset, .unset, .unset, .unset, .unset, .unset, .unset, .unset] [(.int x1)])) (fun _ k => XS.iloadN A9.here hx rfl (own_db hby at_39) rfl k) ?_
        refine own_by (u' := T8.setTop (mkF m 42 #[.val (.int x1), .val (.int x2), .val (.long x3), .second, .val (.long x4), .second, .val (.long x5), .second, .val (.int o0), .val (.int o1), .val (.int o2), .unset, .unset, .unset, .unset, .unset, .unset, .unset, .unset] [(.int (8 : Int32)), (.int x1)])) (fun _ k => XS.bipush A9.here hx rfl (own_db hby at_40) k) ?_
        refine own_by (u' := T8.setTop (mkF m 43 #[.val (.int x1), .val (.int x2), .val (.long x3), .second, .val (.long x4), .second, .val (.long x5), .second, .val (.int o0), .val (.int o1), .val (.int o2), .unset, .unset, .unset, .unset, .unset, .unset, .unset, .unset] [(.int (x1 &&& (8 : Int32)))])) (fun _ k => XS.iand A9.here hx rfl (own_db hby at_42) rfl k) ?_
        have J10 : ∀ (T11 : State) (se : Int32), own_at p l e room_1 s m #[(.int x1), (.int x2), (.long x3), (.long x4), (.long x5)] below meth c n0 T11 0 0 [] → (se = 0 ∨ se = 1) → own_go p e room_1 s below n0 (fun v _ => v = some (.int 1) ∧ True) (T11.setTop (mkF m 51 #[.val (.int x1), .val (.int x2), .val (.long x3), .second, .val (.long x4), .second, .val (.long x5), .second, .val (.int o0), .val (.int o1), .val (.int o2), .unset, .unset, .unset, .unset, .unset, .unset, .unset, .unset] [(.int se)])) := by
          intro T11 se A12 hse
          refine own_by (u' := T11.setTop (mkF m 53 #[.val (.int x1), .val (.int x2), .val (.long x3), .second, .val (.long x4), .second, .val (.long x5), .second, .val (.int o0), .val (.int o1), .val (.int o2), .val (.int se), .unset, .unset, .unset, .unset, .unset, .unset, .unset] [])) (fun _ k => XS.istore A12.here hx rfl (own_db hby at_51) rfl (l' := #[.val (.int x1), .val (.int x2), .val (.long x3), .second, .val (.long x4), .second, .val (.long x5), .second, .val (.int o0), .val (.int o1), .val (.int o2), .val (.int se), .unset, .unset, .unset, .unset, .unset, .unset, .unset]) rfl k) ?_
          refine own_by (u' := T11.setTop (mkF m 54 #[.val (.int x1), .val (.int x2), .val (.long x3), .second, .val (.long x4), .second, .val (.long x5), .second, .val (.int o0), .val (.int o1), .val (.int o2), .val (.int se), .unset, .unset, .unset, .unset, .unset, .unset, .unset] [(.int x1)])) (fun _ k => XS.iloadN A12.here hx rfl (own_db hby at_53) rfl k) ?_
          refine own_by (u' := T11.setTop (mkF m 56 #[.val (.int x1), .val (.int x2), .val (.long x3), .second, .val (.long x4), .second, .val (.long x5), .second, .val (.int o0), .val (.int o1), .val (.int o2), .val (.int se), .unset, .unset, .unset, .unset, .unset, .unset, .unset] [(.int (16 : Int32)), (.int x1)])) (fun _ k => XS.bipush A12.here hx rfl (own_db hby at_54) k) ?_
          refine own_by (u' := T11.setTop (mkF m 57 #[.val (.int x1), .val (.int x2), .val (.long x3), .second, .val (.long x4), .second, .val (.long x5), .second, .val (.int o0), .val (.int o1), .val (.int o2), .val (.int se), .unset, .unset, .unset, .unset, .unset, .unset, .unset] [(.int (x1 &&& (16 : Int32)))])) (fun _ k => XS.iand A12.here hx rfl (own_db hby at_56) rfl k) ?_
          have J13 : ∀ (T14 : State) (cl : Int32), own_at p l e room_1 s m #[(.int x1), (.int x2), (.long x3), (.long x4), (.long x5)] below meth c n0 T14 0 0 [] → (cl = 0 ∨ cl = 1) → own_go p e room_1 s below n0 (fun v _ => v = some (.int 1) ∧ True) (T14.setTop (mkF m 65 #[.val (.int x1), .val (.int x2), .val (.long x3), .second, .val (.long x4), .second, .val (.long x5), .second, .val (.int o0), .val (.int o1), .val (.int o2), .val (.int se), .unset, .unset, .unset, .unset, .unset, .unset, .unset] [(.int cl)])) := by
            intro T14 cl A15 hcl
            refine own_by (u' := T14.setTop (mkF m 67 #[.val (.int x1), .val (.int x2), .val (.long x3), .second, .val (.long x4), .second, .val (.long x5), .second, .val (.int o0), .val (.int o1), .val (.int o2), .val (.int se), .val (.int cl), .unset, .unset, .unset, .unset, .unset, .unset] [])) (fun _ k => XS.istore A15.here hx rfl (own_db hby at_65) rfl (l' := #[.val (.int x1), .val (.int x2), .val (.long x3), .second, .val (.long x4), .second, .val (.long x5), .second, .val (.int o0), .val (.int o1), .val (.int o2), .val (.int se), .val (.int cl), .unset, .unset, .unset, .unset, .unset, .unset]) rfl k) ?_
            refine own_by (u' := T14.setTop (mkF m 68 #[.val (.int x1), .val (.int x2), .val (.long x3), .second, .val (.long x4), .second, .val (.long x5), .second, .val (.int o0), .val (.int o1), .val (.int o2), .val (.int se), .val (.int cl), .unset, .unset, .unset, .unset, .unset, .unset] [(.int x1)])) (fun _ k => XS.iloadN A15.here hx rfl (own_db hby at_67) rfl k) ?_
            refine own_by (u' := T14.setTop (mkF m 70 #[.val (.int x1), .val (.int x2), .val (.long x3), .second, .val (.long x4), .second, .val (.long x5), .second, .val (.int o0), .val (.int o1), .val (.int o2), .val (.int se), .val (.int cl), .unset, .unset, .unset, .unset, .unset, .unset] [(.int (32 : Int32)), (.int x1)])) (fun _ k => XS.bipush A15.here hx rfl (own_db hby at_68) k) ?_
            refine own_by (u' := T14.setTop (mkF m 71 #[.val (.int x1), .val (.int x2), .val (.long x3), .second, .val (.long x4), .second, .val (.long x5), .second, .val (.int o0), .val (.int o1), .val (.int o2), .val (.int se), .val (.int cl), .unset, .unset, .unset, .unset, .unset, .unset] [(.int (x1 &&& (32 : Int32)))])) (fun _ k => XS.iand A15.here hx rfl (own_db hby at_70) rfl k) ?_
            have J16 : ∀ (T17 : State) (ag : Int32), own_at p l e room_1 s m #[(.int x1), (.int x2), (.long x3), (.long x4), (.long x5)] below meth c n0 T17 0 0 [] → (ag = 0 ∨ ag = 1) → own_go p e room_1 s below n0 (fun v _ => v = some (.int 1) ∧ True) (T17.setTop (mkF m 79 #[.val (.int x1), .val (.int x2), .val (.long x3), .second, .val (.long x4), .second, .val (.long x5), .second, .val (.int o0), .val (.int o1), .val (.int o2), .val (.int se), .val (.int cl), .unset, .unset, .unset, .unset, .unset, .unset] [(.int ag)])) := by
              intro T17 ag A18 hag
              refine own_by (u' := T17.setTop (mkF m 81 #[.val (.int x1), .val (.int x2), .val (.long x3), .second, .val (.long x4), .second, .val (.long x5), .second, .val (.int o0), .val (.int o1), .val (.int o2), .val (.int se), .val (.int cl), .val (.int ag), .unset, .unset, .unset, .unset, .unset] [])) (fun _ k => XS.istore A18.here hx rfl (own_db hby at_79) rfl (l' := #[.val (.int x1), .val (.int x2), .val (.long x3), .second, .val (.long x4), .second, .val (.long x5), .second, .val (.int o0), .val (.int o1), .val (.int o2), .val (.int se), .val (.int cl), .val (.int ag), .unset, .unset, .unset, .unset, .unset]) rfl k) ?_
              refine own_by (u' := T17.setTop (mkF m 82 #[.val (.int x1), .val (.int x2), .val (.long x3), .second, .val (.long x4), .second, .val (.long x5), .second, .val (.int o0), .val (.int o1), .val (.int o2), .val (.int se), .val (.int cl), .val (.int ag), .unset, .unset, .unset, .unset, .unset] [(.int x2)])) (fun _ k => XS.iloadN A18.here hx rfl (own_db hby at_81) rfl k) ?_
              refine own_ldcI A18 hx hZ hown (hw _ (List.mem_of_getElem? (i := 0) rfl)) (own_db hby at_82) ?_
              show own_go _ _ _ _ _ _ _ (T17.setTop (mkF m 84 #[.val (.int x1), .val (.int x2), .val (.long x3), .second, .val (.long x4), .second, .val (.long x5), .second, .val (.int o0), .val (.int o1), .val (.int o2), .val (.int se), .val (.int cl), .val (.int ag), .unset, .unset, .unset, .unset, .unset] [(.int (2147483647 : Int32)), (.int x2)]))
              refine own_by (u' := T17.setTop (mkF m 85 #[.val (.int x1), .val (.int x2), .val (.long x3), .second, .val (.long x4), .second, .val (.long x5), .second, .val (.int o0), .val (.int o1), .val (.int o2), .val (.int se), .val (.int cl), .val (.int ag), .unset, .unset, .unset, .unset, .unset] [(.int (x2 &&& (2147483647 : Int32)))])) (fun _ k => XS.iand A18.here hx rfl (own_db hby at_84) rfl k) ?_
              refine own_by (u' := T17.setTop (mkF m 86 #[.val (.int x1), .val (.int x2), .val (.long x3), .second, .val (.long x4), .second, .val (.long x5), .second, .val (.int o0), .val (.int o1), .val (.int o2), .val (.int se), .val (.int cl), .val (.int ag), .unset, .unset, .unset, .unset, .unset] [(.int (3 : Int32)), (.int (x2 &&& (2147483647 : Int32)))])) (fun _ k => XS.iconst A18.here hx rfl (own_db hby at_85) k) ?_
              refine own_irem A18 hx (by decide) (own_db hby at_86) ?_
              show own_go _ _ _ _ _ _ _ (T17.setTop (mkF m 87 #[.val (.int x1), .val (.int x2), .val (.long x3), .second, .val (.long x4), .second, .val (.long x5), .second, .val (.int o0), .val (.int o1), .val (.int o2), .val (.int se), .val (.int cl), .val (.int ag), .unset, .unset, .unset, .unset, .unset] [(.int ((x2 &&& (2147483647 : Int32)) % (3 : Int32)))]))
              refine own_by (u' := T17.setTop (mkF m 89 #[.val (.int x1), .val (.int x2), .val (.long x3), .second, .val (.long x4), .second, .val (.long x5), .second, .val (.int o0), .val (.int o1), .val (.int o2), .val (.int se), .val (.int cl), .val (.int ag), .val (.int ((x2 &&& (2147483647 : Int32)) % (3 : Int32))), .unset, .unset, .unset, .unset] [])) (fun _ k => XS.istore A18.here hx rfl (own_db hby at_87) rfl (l' := #[.val (.int x1), .val (.int x2), .val (.long x3), .second, .val (.long x4), .second, .val (.long x5), .second, .val (.int o0), .val (.int o1), .val (.int o2), .val (.int se), .val (.int cl), .val (.int ag), .val (.int ((x2 &&& (2147483647 : Int32)) % (3 : Int32))), .unset, .unset, .unset, .unset]) rfl k) ?_
              have J19 : ∀ (T20 : State) (qq : Int32), own_at p l e room_1 s m #[(.int x1), (.int x2), (.long x3), (.long x4), (.long x5)] below meth c n0 T20 0 0 [] → (own_vt qq) → own_go p e room_1 s below n0 (fun v _ => v = some (.int 1) ∧ True) (T20.setTop (mkF m 89 #[.val (.int x1), .val (.int x2), .val (.long x3), .second, .val (.long x4), .second, .val (.long x5), .second, .val (.int o0), .val (.int o1), .val (.int o2), .val (.int se), .val (.int cl), .val (.int ag), .val (.int qq), .unset, .unset, .unset, .unset] [])) := by
                intro T20 qq A21 hqq
                refine own_new (ns := ns_SearchState) (vs := [.null, .null, .null, .null, (.int (0 : Int32))]) A21 hx hZ hown (hw _ (List.mem_of_getElem? (i := 1) rfl)) (hw _ (List.mem_of_getElem? (i := 2) rfl)) (hw _ (List.mem_of_getElem? (i := 3) rfl)) (own_cons ⟨(Or.inr (hw _ (List.mem_of_getElem? (i := 12) rfl))), (.array .long), by decide, rfl⟩ (own_cons ⟨(Or.inr (hw _ (List.mem_of_getElem? (i := 15) rfl))), (.array .byte), by decide, rfl⟩ (own_cons ⟨(Or.inr (hw _ (List.mem_of_getElem? (i := 31) rfl))), (.object "com/example/strandwise/strandwise/network/VertexHeap"), by decide, rfl⟩ (own_cons ⟨(Or.inr (hw _ (List.mem_of_getElem? (i := 33) rfl))), (.array .int), by decide, rfl⟩ (own_cons ⟨(Or.inl (hw _ (List.mem_of_getElem? (i := 45) rfl))), .int, by decide, rfl⟩ own_nil))))) (own_db hby at_89) (by decide) (by decide) ?_
                intro T22 A23
                replace A23 : own_at p l e _ s m _ below meth c n0 T22 1 5 [(own_obj Z "com/example/strandwise/strandwise/network/SearchState" ns_SearchState [.null, .null, .null, .null, (.int (0 : Int32))])] := A23
                show own_go _ _ _ _ _ _ _ (T22.setTop (mkF m 92 #[.val (.int x1), .val (.int x2), .val (.long x3), .second, .val (.long x4), .second, .val (.long x5), .second, .val (.int o0), .val (.int o1), .val (.int o2), .val (.int se), .val (.int cl), .val (.int ag), .val (.int qq), .unset, .unset, .unset, .unset] [(.ref (n0 + 0))]))
                refine own_by (u' := T22.setTop (mkF m 93 #[.val (.int x1), .val (.int x2), .val (.long x3), .second, .val (.long x4), .second, .val (.long x5), .second, .val (.int o0), .val (.int o1), .val (.int o2), .val (.int se), .val (.int cl), .val (.int ag), .val (.int qq), .unset, .unset, .unset, .unset] [(.ref (n0 + 0)), (.ref (n0 + 0))])) (fun _ k => XS.dup A23.here hx rfl (own_db hby at_92) rfl rfl k) ?_
                refine own_by (u' := T22.setTop (mkF m 94 #[.val (.int x1), .val (.int x2), .val (.long x3), .second, .val (.long x4), .second, .val (.long x5), .second, .val (.int o0), .val (.int o1), .val (.int o2), .val (.int se), .val (.int cl), .val (.int ag), .val (.int qq), .unset, .unset, .unset, .unset] [(.int (3 : Int32)), (.ref (n0 + 0)), (.ref (n0 + 0))])) (fun _ k => XS.iconst A23.here hx rfl (own_db hby at_93) k) ?_
                refine own_callC (y := (⟨"com/example/strandwise/strandwise/network/SearchState", "<init>", "(I)V"⟩ : MethodName)) (rest := [(.ref (n0 + 0))]) A23 hx hZ hown rfl (hw _ (List.mem_of_getElem? (i := 4) rfl)) (hw _ (List.mem_of_getElem? (i := 5) rfl)) (hw _ (List.mem_of_getElem? (i := 3) rfl)) (hw _ (List.mem_of_getElem? (i := 6) rfl)) (by decide) (gSC l Z a0 hw n0) (by rw [hml]; rfl) (n0 + 0) [(.int (3 : Int32))] rfl rfl pd__I_V rfl (W := 1) (by show 2 * 0 + _ ≤ _; exact Nat.le_of_eq rfl) (own_db hby at_94) (by decide) (by decide) (by decide) (by decide) ?_
                intro v24 i25 T27 hq26 A28
                obtain ⟨rfl, he29⟩ := hq26
                rw [he29] at A28
                replace A28 : own_at p l e _ s m _ below meth c n0 T27 7 24 [(own_obj Z "com/example/strandwise/strandwise/network/SearchState" ns_SearchState [(.ref (n0 + 1)), (.ref (n0 + 2)), (.ref (n0 + 3)), (.ref (n0 + 6)), (.int (0 : Int32))]), (own_la Z [(0 : Int64), (0 : Int64), (0 : Int64)]), (own_ia Z .byte [(0 : Int32), (0 : Int32), (0 : Int32)]), (own_obj Z "com/example/strandwise/strandwise/network/VertexHeap" ns_VertexHeap [(.ref (n0 + 1)), (.ref (n0 + 4)), (.ref (n0 + 5)), (.int (0 : Int32))]), (own_ia Z .int [(0 : Int32), (0 : Int32), (0 : Int32)]), (own_ia Z .int [(0 : Int32), (0 : Int32), (0 : Int32)]), (own_ia Z .int [(0 : Int32), (0 : Int32), (0 : Int32)])] := A28
                show own_go _ _ _ _ _ _ _ (T27.setTop (mkF m 97 #[.val (.int x1), .val (.int x2), .val (.long x3), .second, .val (.long x4), .second, .val (.long x5), .second, .val (.int o0), .val (.int o1), .val (.int o2), .val (.int se), .val (.int cl), .val (.int ag), .val (.int qq), .unset, .unset, .unset, .unset] [(.ref (n0 + 0))]))
                refine own_by (u' := T27.setTop (mkF m 99 #[.val (.int x1), .val (.int x2), .val (.long x3), .second, .val (.long x4), .second, .val (.long x5), .second, .val (.int o0), .val (.int o1), .val (.int o2), .val (.int se), .val (.int cl), .val (.int ag), .val (.int qq), .val (.ref (n0 + 0)), .unset, .unset, .unset] [])) (fun _ k => XS.astore A28.here hx rfl (own_db hby at_97) rfl rfl (l' := #[.val (.int x1), .val (.int x2), .val (.long x3), .second, .val (.long x4), .second, .val (.long x5), .second, .val (.int o0), .val (.int o1), .val (.int o2), .val (.int se), .val (.int cl), .val (.int ag), .val (.int qq), .val (.ref (n0 + 0)), .unset, .unset, .unset]) rfl k) ?_
                have J30 : ∀ (T31 : State)  (D : List Int64) (S : List Int32) (H : List Int32) (Q : List Int32) (R : List Int32) (rc : Int32) (sz : Int32), own_at p l e room_1 s m #[(.int x1), (.int x2), (.long x3), (.long x4), (.long x5)] below meth c n0 T31 7 24 [(own_obj Z "com/example/strandwise/strandwise/network/SearchState" ns_SearchState [(.ref (n0 + 1)), (.ref (n0 + 2)), (.ref (n0 + 3)), (.ref (n0 + 6)), (.int rc)]), (own_la Z D), (own_ia Z .byte S), (own_obj Z "com/example/strandwise/strandwise/network/VertexHeap" ns_VertexHeap [(.ref (n0 + 1)), (.ref (n0 + 4)), (.ref (n0 + 5)), (.int sz)]), (own_ia Z .int H), (own_ia Z .int Q), (own_ia Z .int R)] → (D.length = 3) → (own_iv S H Q R rc sz) → (sz.toInt = own_cn S) → (own_g S (0 : Int32) = 0) → (own_g S (1 : Int32) = 0) → (own_g S (2 : Int32) = 0) → own_go p e room_1 s below n0 (fun v _ => v = some (.int 1) ∧ True) (T31.setTop (mkF m 99 #[.val (.int x1), .val (.int x2), .val (.long x3), .second, .val (.long x4), .second, .val (.long x5), .second, .val (.int o0), .val (.int o1), .val (.int o2), .val (.int se), .val (.int cl), .val (.int ag), .val (.int qq), .val (.ref (n0 + 0)), .unset, .unset, .unset] [])) := by
                  intro T31 D S H Q R rc sz A32 hD iv hz r0 r1 r2
                  refine own_by (u' := T31.setTop (mkF m 101 #[.val (.int x1), .val (.int x2), .val (.long x3), .second, .val (.long x4), .second, .val (.long x5), .second, .val (.int o0), .val (.int o1), .val (.int o2), .val (.int se), .val (.int cl), .val (.int ag), .val (.int qq), .val (.ref (n0 + 0)), .unset, .unset, .unset] [(.int o0)])) (fun _ k => XS.iload A32.here hx rfl (own_db hby at_99) rfl k) ?_
                  have J33 : ∀ (T34 : State)  (D : List Int64) (S : List Int32) (H : List Int32) (Q : List Int32) (R : List Int32) (rc : Int32) (sz : Int32), own_at p l e room_1 s m #[(.int x1), (.int x2), (.long x3), (.long x4), (.long x5)] below meth c n0 T34 7 24 [(own_obj Z "com/example/strandwise/strandwise/network/SearchState" ns_SearchState [(.ref (n0 + 1)), (.ref (n0 + 2)), (.ref (n0 + 3)), (.ref (n0 + 6)), (.int rc)]), (own_la Z D), (own_ia Z .byte S), (own_obj Z "com/example/strandwise/strandwise/network/VertexHeap" ns_VertexHeap [(.ref (n0 + 1)), (.ref (n0 + 4)), (.ref (n0 + 5)), (.int sz)]), (own_ia Z .int H), (own_ia Z .int Q), (own_ia Z .int R)] → (D.length = 3) → (own_iv S H Q R rc sz) → (sz.toInt = own_cn S) → (own_g S (0 : Int32) = o0) → (own_g S (1 : Int32) = 0) → (own_g S (2 : Int32) = 0) → own_go p e room_1 s below n0 (fun v _ => v = some (.int 1) ∧ True) (T34.setTop (mkF m 112 #[.val (.int x1), .val (.int x2), .val (.long x3), .second, .val (.long x4), .second, .val (.long x5), .second, .val (.int o0), .val (.int o1), .val (.int o2), .val (.int se), .val (.int cl), .val (.int ag), .val (.int qq), .val (.ref (n0 + 0)), .unset, .unset, .unset] [])) := by
                    intro T34 D S H Q R rc sz A35 hD iv hz r0 r1 r2
                    refine own_by (u' := T34.setTop (mkF m 114 #[.val (.int x1), .val (.int x2), .val (.long x3), .second, .val (.long x4), .second, .val (.long x5), .second, .val (.int o0), .val (.int o1), .val (.int o2), .val (.int se), .val (.int cl), .val (.int ag), .val (.int qq), .val (.ref (n0 + 0)), .unset, .unset, .unset] [(.int o1)])) (fun _ k => XS.iload A35.here hx rfl (own_db hby at_112) rfl k) ?_
                    have J36 : ∀ (T37 : State)  (D : List Int64) (S : List Int32) (H : List Int32) (Q : List Int32) (R : List Int32) (rc : Int32) (sz : Int32), own_at p l e room_1 s m #[(.int x1), (.int x2), (.long x3), (.long x4), (.long x5)] below meth c n0 T37 7 24 [(own_obj Z "com/example/strandwise/strandwise/network/SearchState" ns_SearchState [(.ref (n0 + 1)), (.ref (n0 + 2)), (.ref (n0 + 3)), (.ref (n0 + 6)), (.int rc)]), (own_la Z D), (own_ia Z .byte S), (own_obj Z "com/example/strandwise/strandwise/network/VertexHeap" ns_VertexHeap [(.ref (n0 + 1)), (.ref (n0 + 4)), (.ref (n0 + 5)), (.int sz)]), (own_ia Z .int H), (own_ia Z .int Q), (own_ia Z .int R)] → (D.length = 3) → (own_iv S H Q R rc sz) → (sz.toInt = own_cn S) → (own_g S (0 : Int32) = o0) → (own_g S (1 : Int32) = o1) → (own_g S (2 : Int32) = 0) → own_go p e room_1 s below n0 (fun v _ => v = some (.int 1) ∧ True) (T37.setTop (mkF m 126 #[.val (.int x1), .val (.int x2), .val (.long x3), .second, .val (.long x4), .second, .val (.long x5), .second, .val (.int o0), .val (.int o1), .val (.int o2), .val (.int se), .val (.int cl), .val (.int ag), .val (.int qq), .val (.ref (n0 + 0)), .unset, .unset, .unset] [])) := by
                      intro T37 D S H Q R rc sz A38 hD iv hz r0 r1 r2
                      refine own_by (u' := T37.setTop (mkF m 128 #[.val (.int x1), .val (.int x2), .val (.long x3), .second, .val (.long x4), .second, .val (.long x5), .second, .val (.int o0), .val (.int o1), .val (.int o2), .val (.int se), .val (.int cl), .val (.int ag), .val (.int qq), .val (.ref (n0 + 0)), .unset, .unset, .unset] [(.int o2)])) (fun _ k => XS.iload A38.here hx rfl (own_db hby at_126) rfl k) ?_
                      have J39 : ∀ (T40 : State)  (D : List Int64) (S : List Int32) (H : List Int32) (Q : List Int32) (R : List Int32) (rc : Int32) (sz : Int32), own_at p l e room_1 s m #[(.int x1), (.int x2), (.long x3), (.long x4), (.long x5)] below meth c n0 T40 7 24 [(own_obj Z "com/example/strandwise/strandwise/network/SearchState" ns_SearchState [(.ref (n0 + 1)), (.ref (n0 + 2)), (.ref (n0 + 3)), (.ref (n0 + 6)), (.int rc)]), (own_la Z D), (own_ia Z .byte S), (own_obj Z "com/example/strandwise/strandwise/network/VertexHeap" ns_VertexHeap [(.ref (n0 + 1)), (.ref (n0 + 4)), (.ref (n0 + 5)), (.int sz)]), (own_ia Z .int H), (own_ia Z .int Q), (own_ia Z .int R)] → (D.length = 3) → (own_iv S H Q R rc sz) → (sz.toInt = own_cn S) → (own_g S (0 : Int32) = o0) → (own_g S (1 : Int32) = o1) → (own_g S (2 : Int32) = o2) → own_go p e room_1 s below n0 (fun v _ => v = some (.int 1) ∧ True) (T40.setTop (mkF m 140 #[.val (.int x1), .val (.int x2), .val (.long x3), .second, .val (.long x4), .second, .val (.long x5), .second, .val (.int o0), .val (.int o1), .val (.int o2), .val (.int se), .val (.int cl), .val (.int ag), .val (.int qq), .val (.ref (n0 + 0)), .unset, .unset, .unset] [])) := by
                        intro T40 D S H Q R rc sz A41 hD iv hz r0 r1 r2
                        refine own_by (u' := T40.setTop (mkF m 142 #[.val (.int x1), .val (.int x2), .val (.long x3), .second, .val (.long x4), .second, .val (.long x5), .second, .val (.int o0), .val (.int o1), .val (.int o2), .val (.int se), .val (.int cl), .val (.int ag), .val (.int qq), .val (.ref (n0 + 0)), .unset, .unset, .unset] [(.int se)])) (fun _ k => XS.iload A41.here hx rfl (own_db hby at_140) rfl k) ?_
                        have J42 : ∀ (T43 : State)  (D : List Int64) (S : List Int32) (H : List Int32) (Q : List Int32) (R : List Int32) (rc : Int32) (sz : Int32), own_at p l e room_1 s m #[(.int x1), (.int x2), (.long x3), (.long x4), (.long x5)] below meth c n0 T43 7 24 [(own_obj Z "com/example/strandwise/strandwise/network/SearchState" ns_SearchState [(.ref (n0 + 1)), (.ref (n0 + 2)), (.ref (n0 + 3)), (.ref (n0 + 6)), (.int rc)]), (own_la Z D), (own_ia Z .byte S), (own_obj Z "com/example/strandwise/strandwise/network/VertexHeap" ns_VertexHeap [(.ref (n0 + 1)), (.ref (n0 + 4)), (.ref (n0 + 5)), (.int sz)]), (own_ia Z .int H), (own_ia Z .int Q), (own_ia Z .int R)] → (D.length = 3) → (own_iv S H Q R rc sz) → (own_g S (0 : Int32) = 0 ↔ o0 = 0) → (own_g S (1 : Int32) = 0 ↔ o1 = 0) → (own_g S (2 : Int32) = 0 ↔ o2 = 0) → own_go p e room_1 s below n0 (fun v _ => v = some (.int 1) ∧ True) (T43.setTop (mkF m 166 #[.val (.int x1), .val (.int x2), .val (.long x3), .second, .val (.long x4), .second, .val (.long x5), .second, .val (.int o0), .val (.int o1), .val (.int o2), .val (.int se), .val (.int cl), .val (.int ag), .val (.int qq), .val (.ref (n0 + 0)), .unset, .unset, .unset] [])) := by
                          intro T43 D S H Q R rc sz A44 hD iv q0 q1 q2
                          refine own_by (u' := T43.setTop (mkF m 168 #[.val (.int x1), .val (.int x2), .val (.long x3), .second, .val (.long x4), .second, .val (.long x5), .second, .val (.int o0), .val (.int o1), .val (.int o2), .val (.int se), .val (.int cl), .val (.int ag), .val (.int qq), .val (.ref (n0 + 0)), .unset, .unset, .unset] [(.int cl)])) (fun _ k => XS.iload A44.here hx rfl (own_db hby at_166) rfl k) ?_
                          have J45 : ∀ (T46 : State)  (D : List Int64) (S : List Int32) (H : List Int32) (Q : List Int32) (R : List Int32) (rc : Int32) (sz : Int32), own_at p l e room_1 s m #[(.int x1), (.int x2), (.long x3), (.long x4), (.long x5)] below meth c n0 T46 7 24 [(own_obj Z "com/example/strandwise/strandwise/network/SearchState" ns_SearchState [(.ref (n0 + 1)), (.ref (n0 + 2)), (.ref (n0 + 3)), (.ref (n0 + 6)), (.int rc)]), (own_la Z D), (own_ia Z .byte S), (own_obj Z "com/example/strandwise/strandwise/network/VertexHeap" ns_VertexHeap [(.ref (n0 + 1)), (.ref (n0 + 4)), (.ref (n0 + 5)), (.int sz)]), (own_ia Z .int H), (own_ia Z .int Q), (own_ia Z .int R)] → (D.length = 3) → (own_iv S H Q R rc sz) → (own_g S (0 : Int32) = 0 ↔ (¬ cl = 0 ∨ o0 = 0)) → (own_g S (1 : Int32) = 0 ↔ (¬ cl = 0 ∨ o1 = 0)) → (own_g S (2 : Int32) = 0 ↔ (¬ cl = 0 ∨ o2 = 0)) → own_go p e room_1 s below n0 (fun v _ => v = some (.int 1) ∧ True) (T46.setTop (mkF m 176 #[.val (.int x1), .val (.int x2), .val (.long x3), .second, .val (.long x4), .second, .val (.long x5), .second, .val (.int o0), .val (.int o1), .val (.int o2), .val (.int se), .val (.int cl), .val (.int ag), .val (.int qq), .val (.ref (n0 + 0)), .unset, .unset, .unset] [])) := by
                            intro T46 D S H Q R rc sz A47 hD iv c0 c1 c2
                            refine own_by (u' := T46.setTop (mkF m 178 #[.val (.int x1), .val (.int x2), .val (.long x3), .second, .val (.long x4), .second, .val (.long x5), .second, .val (.int o0), .val (.int o1), .val (.int o2), .val (.int se), .val (.int cl), .val (.int ag), .val (.int qq), .val (.ref (n0 + 0)), .unset, .unset, .unset] [(.int ag)])) (fun _ k => XS.iload A47.here hx rfl (own_db hby at_176) rfl k) ?_
                            have J48 : ∀ (T49 : State)  (D : List Int64) (S : List Int32) (H : List Int32) (Q : List Int32) (R : List Int32) (rc : Int32) (sz : Int32), own_at p l e room_1 s m #[(.int x1), (.int x2), (.long x3), (.long x4), (.long x5)] below meth c n0 T49 7 24 [(own_obj Z "com/example/strandwise/strandwise/network/SearchState" ns_SearchState [(.ref (n0 + 1)), (.ref (n0 + 2)), (.ref (n0 + 3)), (.ref (n0 + 6)), (.int rc)]), (own_la Z D), (own_ia Z .byte S), (own_obj Z "com/example/strandwise/strandwise/network/VertexHeap" ns_VertexHeap [(.ref (n0 + 1)), (.ref (n0 + 4)), (.ref (n0 + 5)), (.int sz)]), (own_ia Z .int H), (own_ia Z .int Q), (own_ia Z .int R)] → (S.length = 3) → (own_g S (0 : Int32) = 0 ↔ ((¬ cl = 0 ∨ o0 = 0) ∧ ¬ (¬ ag = 0 ∧ qq = (0 : Int32)))) → (own_g S (1 : Int32) = 0 ↔ ((¬ cl = 0 ∨ o1 = 0) ∧ ¬ (¬ ag = 0 ∧ qq = (1 : Int32)))) → (own_g S (2 : Int32) = 0 ↔ ((¬ cl = 0 ∨ o2 = 0) ∧ ¬ (¬ ag = 0 ∧ qq = (2 : Int32)))) → own_go p e room_1 s below n0 (fun v _ => v = some (.int 1) ∧ True) (T49.setTop (mkF m 191 #[.val (.int x1), .val (.int x2), .val (.long x3), .second, .val (.long x4), .second, .val (.long x5), .second, .val (.int o0), .val (.int o1), .val (.int o2), .val (.int se), .val (.int cl), .val (.int ag), .val (.int qq), .val (.ref (n0 + 0)), .unset, .unset, .unset] [])) := by
                              intro T49 D S H Q R rc sz A50 hS d0 d1 d2
                              refine own_by (u' := T49.setTop (mkF m 193 #[.val (.int x1), .val (.int x2), .val (.long x3), .second, .val (.long x4), .second, .val (.long x5), .second, .val (.int o0), .val (.int o1), .val (.int o2), .val (.int se), .val (.int cl), .val (.int ag), .val (.int qq), .val (.ref (n0 + 0)), .unset, .unset, .unset] [(.int cl)])) (fun _ k => XS.iload A50.here hx rfl (own_db hby at_191) rfl k) ?_
                              have J51 : ∀ (T52 : State) (e0 : Int32), own_at p l e room_1 s m #[(.int x1), (.int x2), (.long x3), (.long x4), (.long x5)] below meth c n0 T52 7 24 [(own_obj Z "com/example/strandwise/strandwise/network/SearchState" ns_SearchState [(.ref (n0 + 1)), (.ref (n0 + 2)), (.ref (n0 + 3)), (.ref (n0 + 6)), (.int rc)]), (own_la Z D), (own_ia Z .byte S), (own_obj Z "com/example/strandwise/strandwise/network/VertexHeap" ns_VertexHeap [(.ref (n0 + 1)), (.ref (n0 + 4)), (.ref (n0 + 5)), (.int sz)]), (own_ia Z .int H), (own_ia Z .int Q), (own_ia Z .int R)] → ((e0 = 0 ∧ ((¬ cl = 0 ∨ o0 = 0) ∧ ¬ (¬ ag = 0 ∧ qq = (0 : Int32)))) ∨ (e0 = 1 ∧ ¬ ((¬ cl = 0 ∨ o0 = 0) ∧ ¬ (¬ ag = 0 ∧ qq = (0 : Int32))))) → own_go p e room_1 s below n0 (fun v _ => v = some (.int 1) ∧ True) (T52.setTop (mkF m 216 #[.val (.int x1), .val (.int x2), .val (.long x3), .second, .val (.long x4), .second, .val (.long x5), .second, .val (.int o0), .val (.int o1), .val (.int o2), .val (.int se), .val (.int cl), .val (.int ag), .val (.int qq), .val (.ref (n0 + 0)), .unset, .unset, .unset] [(.int e0)])) := by
                                intro T52 e0 A53 he0
                                refine own_by (u' := T52.setTop (mkF m 218 #[.val (.int x1), .val (.int x2), .val (.long x3), .second, .val (.long x4), .second, .val (.long x5), .second, .val (.int o0), .val (.int o1), .val (.int o2), .val (.int se), .val (.int cl), .val (.int ag), .val (.int qq), .val (.ref (n0 + 0)), .val (.int e0), .unset, .unset] [])) (fun _ k => XS.istore A53.here hx rfl (own_db hby at_216) rfl (l' := #[.val (.int x1), .val (.int x2), .val (.long x3), .second, .val (.long x4), .second, .val (.long x5), .second, .val (.int o0), .val (.int o1), .val (.int o2), .val (.int se), .val (.int cl), .val (.int ag), .val (.int qq), .val (.ref (n0 + 0)), .val (.int e0), .unset, .unset]) rfl k) ?_
                                refine own_by (u' := T52.setTop (mkF m 220 #[.val (.int x1), .val (.int x2), .val (.long x3), .second, .val (.long x4), .second, .val (.long x5), .second, .val (.int o0), .val (.int o1), .val (.int o2), .val (.int se), .val (.int cl), .val (.int ag), .val (.int qq), .val (.ref (n0 + 0)), .val (.int e0), .unset, .unset] [(.int cl)])) (fun _ k => XS.iload A53.here hx rfl (own_db hby at_218) rfl k) ?_
                                have J54 : ∀ (T55 : State) (e1 : Int32), own_at p l e room_1 s m #[(.int x1), (.int x2), (.long x3), (.long x4), (.long x5)] below meth c n0 T55 7 24 [(own_obj Z "com/example/strandwise/strandwise/network/SearchState" ns_SearchState [(.ref (n0 + 1)), (.ref (n0 + 2)), (.ref (n0 + 3)), (.ref (n0 + 6)), (.int rc)]), (own_la Z D), (own_ia Z .byte S), (own_obj Z "com/example/strandwise/strandwise/network/VertexHeap" ns_VertexHeap [(.ref (n0 + 1)), (.ref (n0 + 4)), (.ref (n0 + 5)), (.int sz)]), (own_ia Z .int H), (own_ia Z .int Q), (own_ia Z .int R)] → ((e1 = 0 ∧ ((¬ cl = 0 ∨ o1 = 0) ∧ ¬ (¬ ag = 0 ∧ qq = (1 : Int32)))) ∨ (e1 = 1 ∧ ¬ ((¬ cl = 0 ∨ o1 = 0) ∧ ¬ (¬ ag = 0 ∧ qq = (1 : Int32))))) → own_go p e room_1 s below n0 (fun v _ => v = some (.int 1) ∧ True) (T55.setTop (mkF m 244 #[.val (.int x1), .val (.int x2), .val (.long x3), .second, .val (.long x4), .second, .val (.long x5), .second, .val (.int o0), .val (.int o1), .val (.int o2), .val (.int se), .val (.int cl), .val (.int ag), .val (.int qq), .val (.ref (n0 + 0)), .val (.int e0), .unset, .unset] [(.int e1)])) := by
                                  intro T55 e1 A56 he1
                                  refine own_by (u' := T55.setTop (mkF m 246 #[.val (.int x1), .val (.int x2), .val (.long x3), .second, .val (.long x4), .second, .val (.long x5), .second, .val (.int o0), .val (.int o1), .val (.int o2), .val (.int se), .val (.int cl), .val (.int ag), .val (.int qq), .val (.ref (n0 + 0)), .val (.int e0), .val (.int e1), .unset] [])) (fun _ k => XS.istore A56.here hx rfl (own_db hby at_244) rfl (l' := #[.val (.int x1), .val (.int x2), .val (.long x3), .second, .val (.long x4), .second, .val (.long x5), .second, .val (.int o0), .val (.int o1), .val (.int o2), .val (.int se), .val (.int cl), .val (.int ag), .val (.int qq), .val (.ref (n0 + 0)), .val (.int e0), .val (.int e1), .unset]) rfl k) ?_
                                  refine own_by (u' := T55.setTop (mkF m 248 #[.val (.int x1), .val (.int x2), .val (.long x3), .second, .val (.long x4), .second, .val (.long x5), .second, .val (.int o0), .val (.int o1), .val (.int o2), .val (.int se), .val (.int cl), .val (.int ag), .val (.int qq), .val (.ref (n0 + 0)), .val (.int e0), .val (.int e1), .unset] [(.int cl)])) (fun _ k => XS.iload A56.here hx rfl (own_db hby at_246) rfl k) ?_
                                  have J57 : ∀ (T58 : State) (e2 : Int32), own_at p l e room_1 s m #[(.int x1), (.int x2), (.long x3), (.long x4), (.long x5)] below meth c n0 T58 7 24 [(own_obj Z "com/example/strandwise/strandwise/network/SearchState" ns_SearchState [(.ref (n0 + 1)), (.ref (n0 + 2)), (.ref (n0 + 3)), (.ref (n0 + 6)), (.int rc)]), (own_la Z D), (own_ia Z .byte S), (own_obj Z "com/example/strandwise/strandwise/network/VertexHeap" ns_VertexHeap [(.ref (n0 + 1)), (.ref (n0 + 4)), (.ref (n0 + 5)), (.int sz)]), (own_ia Z .int H), (own_ia Z .int Q), (own_ia Z .int R)] → ((e2 = 0 ∧ ((¬ cl = 0 ∨ o2 = 0) ∧ ¬ (¬ ag = 0 ∧ qq = (2 : Int32)))) ∨ (e2 = 1 ∧ ¬ ((¬ cl = 0 ∨ o2 = 0) ∧ ¬ (¬ ag = 0 ∧ qq = (2 : Int32))))) → own_go p e room_1 s below n0 (fun v _ => v = some (.int 1) ∧ True) (T58.setTop (mkF m 272 #[.val (.int x1), .val (.int x2), .val (.long x3), .second, .val (.long x4), .second, .val (.long x5), .second, .val (.int o0), .val (.int o1), .val (.int o2), .val (.int se), .val (.int cl), .val (.int ag), .val (.int qq), .val (.ref (n0 + 0)), .val (.int e0), .val (.int e1), .unset] [(.int e2)])) := by
                                    intro T58 e2 A59 he2
                                    refine own_by (u' := T58.setTop (mkF m 274 #[.val (.int x1), .val (.int x2), .val (.long x3), .second, .val (.long x4), .second, .val (.long x5), .second, .val (.int o0), .val (.int o1), .val (.int o2), .val (.int se), .val (.int cl), .val (.int ag), .val (.int qq), .val (.ref (n0 + 0)), .val (.int e0), .val (.int e1), .val (.int e2)] [])) (fun _ k => XS.istore A59.here hx rfl (own_db hby at_272) rfl (l' := #[.val (.int x1), .val (.int x2), .val (.long x3), .second, .val (.long x4), .second, .val (.long x5), .second, .val (.int o0), .val (.int o1), .val (.int o2), .val (.int se), .val (.int cl), .val (.int ag), .val (.int qq), .val (.ref (n0 + 0)), .val (.int e0), .val (.int e1), .val (.int e2)]) rfl k) ?_
                                    refine own_by (u' := T58.setTop (mkF m 276 #[.val (.int x1), .val (.int x2), .val (.long x3), .second, .val (.long x4), .second, .val (.long x5), .second, .val (.int o0), .val (.int o1), .val (.int o2), .val (.int se), .val (.int cl), .val (.int ag), .val (.int qq), .val (.ref (n0 + 0)), .val (.int e0), .val (.int e1), .val (.int e2)] [(.ref (n0 + 0))])) (fun _ k => XS.aload A59.here hx rfl (own_db hby at_274) rfl rfl k) ?_
                                    refine own_by (u' := T58.setTop (mkF m 277 #[.val (.int x1), .val (.int x2), .val (.long x3), .second, .val (.long x4), .second, .val (.long x5), .second, .val (.int o0), .val (.int o1), .val (.int o2), .val (.int se), .val (.int cl), .val (.int ag), .val (.int qq), .val (.ref (n0 + 0)), .val (.int e0), .val (.int e1), .val (.int e2)] [(.int (0 : Int32)), (.ref (n0 + 0))])) (fun _ k => XS.iconst A59.here hx rfl (own_db hby at_276) k) ?_
                                    refine own_callV (y := (⟨"com/example/strandwise/strandwise/network/SearchState", "isReached", "(I)Z"⟩ : MethodName)) (rest := []) A59 hx hZ hown (hw _ (List.mem_of_getElem? (i := 34) rfl)) (hw _ (List.mem_of_getElem? (i := 35) rfl)) (hw _ (List.mem_of_getElem? (i := 37) rfl)) (hw _ (List.mem_of_getElem? (i := 36) rfl)) (hw _ (List.mem_of_getElem? (i := 3) rfl)) (hw _ (List.mem_of_getElem? (i := 38) rfl)) (by decide) (i := 0) rfl (gR l Z a0 hw n0 D S H Q R rc sz (0 : Int32) hS own_vt0) (by rw [hml]; rfl) [(.int (0 : Int32))] rfl rfl pd__I_Z rfl (W := 0) (by show 2 * 0 + _ ≤ _; exact Nat.le_of_eq rfl) (own_db hby at_277) (by decide) (by decide) (by decide) (by decide) ?_
                                    intro v60 i61 T63 hq62 A64
                                    obtain ⟨rfl, he65⟩ := hq62
                                    rw [he65] at A64
                                    replace A64 : own_at p l e _ s m _ below meth c n0 T63 7 24 [(own_obj Z "com/example/strandwise/strandwise/network/SearchState" ns_SearchState [(.ref (n0 + 1)), (.ref (n0 + 2)), (.ref (n0 + 3)), (.ref (n0 + 6)), (.int rc)]), (own_la Z D), (own_ia Z .byte S), (own_obj Z "com/example/strandwise/strandwise/network/VertexHeap" ns_VertexHeap [(.ref (n0 + 1)), (.ref (n0 + 4)), (.ref (n0 + 5)), (.int sz)]), (own_ia Z .int H), (own_ia Z .int Q), (own_ia Z .int R)] := A64
                                    show own_go _ _ _ _ _ _ _ (T63.setTop (mkF m 280 #[.val (.int x1), .val (.int x2), .val (.long x3), .second, .val (.long x4), .second, .val (.long x5), .second, .val (.int o0), .val (.int o1), .val (.int o2), .val (.int se), .val (.int cl), .val (.int ag), .val (.int qq), .val (.ref (n0 + 0)), .val (.int e0), .val (.int e1), .val (.int e2)] [(.int (fR S (0 : Int32)))]))
                                    refine own_by (u' := T63.setTop (mkF m 282 #[.val (.int x1), .val (.int x2), .val (.long x3), .second, .val (.long x4), .second, .val (.long x5), .second, .val (.int o0), .val (.int o1), .val (.int o2), .val (.int se), .val (.int cl), .val (.int ag), .val (.int qq), .val (.ref (n0 + 0)), .val (.int e0), .val (.int e1), .val (.int e2)] [(.int e0), (.int (fR S (0 : Int32)))])) (fun _ k => XS.iload A64.here hx rfl (own_db hby at_280) rfl k) ?_
                                    refine own_by (u' := T63.setTop (mkF m 285 #[.val (.int x1), .val (.int x2), .val (.long x3), .second, .val (.long x4), .second, .val (.long x5), .second, .val (.int o0), .val (.int o1), .val (.int o2), .val (.int se), .val (.int cl), .val (.int ag), .val (.int qq), .val (.ref (n0 + 0)), .val (.int e0), .val (.int e1), .val (.int e2)] [])) (fun _ k => XS.icmpNo A64.here hx rfl (own_db hby at_282) rfl (teq (own_fin d0 he0)).2 k) ?_
                                    refine own_by (u' := T63.setTop (mkF m 287 #[.val (.int x1), .val (.int x2), .val (.long x3), .second, .val (.long x4), .second, .val (.long x5), .second, .val (.int o0), .val (.int o1), .val (.int o2), .val (.int se), .val (.int cl), .val (.int ag), .val (.int qq), .val (.ref (n0 + 0)), .val (.int e0), .val (.int e1), .val (.int e2)] [(.ref (n0 + 0))])) (fun _ k => XS.aload A64.here hx rfl (own_db hby at_285) rfl rfl k) ?_
                                    refine own_by (u' := T63.setTop (mkF m 288 #[.val (.int x1), .val (.int x2), .val (.long x3), .second, .val (.long x4), .second, .val (.long x5), .second, .val (.int o0), .val (.int o1), .val (.int o2), .val (.int se), .val (.int cl), .val (.int ag), .val (.int qq), .val (.ref (n0 + 0)), .val (.int e0), .val (.int e1), .val (.int e2)] [(.int (1 : Int32)), (.ref (n0 + 0))])) (fun _ k => XS.iconst A64.here hx rfl (own_db hby at_287) k) ?_
                                    refine own_callV (y := (⟨"com/example/strandwise/strandwise/network/SearchState", "isReached", "(I)Z"⟩ : MethodName)) (rest := []) A64 hx hZ hown (hw _ (List.mem_of_getElem? (i := 34) rfl)) (hw _ (List.mem_of_getElem? (i := 35) rfl)) (hw _ (List.mem_of_getElem? (i := 37) rfl)) (hw _ (List.mem_of_getElem? (i := 36) rfl)) (hw _ (List.mem_of_getElem? (i := 3) rfl)) (hw _ (List.mem_of_getElem? (i := 38) rfl)) (by decide) (i := 0) rfl (gR l Z a0 hw n0 D S H Q R rc sz (1 : Int32) hS own_vt1) (by rw [hml]; rfl) [(.int (1 : Int32))] rfl rfl pd__I_Z rfl (W := 0) (by show 2 * 0 + _ ≤ _; exact Nat.le_of_eq rfl) (own_db hby at_288) (by decide) (by decide) (by decide) (by decide) ?_
                                    intro v66 i67 T69 hq68 A70
                                    obtain ⟨rfl, he71⟩ := hq68
                                    rw [he71] at A70
                                    replace A70 : own_at p l e _ s m _ below meth c n0 T69 7 24 [(own_obj Z "com/example/strandwise/strandwise/network/SearchState" ns_SearchState [(.ref (n0 + 1)), (.ref (n0 + 2)), (.ref (n0 + 3)), (.ref (n0 + 6)), (.int rc)]), (own_la Z D), (own_ia Z .byte S), (own_obj Z "com/example/strandwise/strandwise/network/VertexHeap" ns_VertexHeap [(.ref (n0 + 1)), (.ref (n0 + 4)), (.ref (n0 + 5)), (.int sz)]), (own_ia Z .int H), (own_ia Z .int Q), (own_ia Z .int R)] := A70
                                    show own_go _ _ _ _ _ _ _ (T69.setTop (mkF m 291 #[.val (.int x1), .val (.int x2), .val (.long x3), .second, .val (.long x4), .second, .val (.long x5), .second, .val (.int o0), .val (.int o1), .val (.int o2), .val (.int se), .val (.int cl), .val (.int ag), .val (.int qq), .val (.ref (n0 + 0)), .val (.int e0), .val (.int e1), .val (.int e2)] [(.int (fR S (1 : Int32)))]))
                                    refine own_by (u' := T69.setTop (mkF m 293 #[.val (.int x1), .val (.int x2), .val (.long x3), .second, .val (.long x4), .second, .val (.long x5), .second, .val (.int o0), .val (.int o1), .val (.int o2), .val (.int se), .val (.int cl), .val (.int ag), .val (.int qq), .val (.ref (n0 + 0)), .val (.int e0), .val (.int e1), .val (.int e2)] [(.int e1), (.int (fR S (1 : Int32)))])) (fun _ k => XS.iload A70.here hx rfl (own_db hby at_291) rfl k) ?_
                                    refine own_by (u' := T69.setTop (mkF m 296 #[.val (.int x1), .val (.int x2), .val (.long x3), .second, .val (.long x4), .second, .val (.long x5), .second, .val (.int o0), .val (.int o1), .val (.int o2), .val (.int se), .val (.int cl), .val (.int ag), .val (.int qq), .val (.ref (n0 + 0)), .val (.int e0), .val (.int e1), .val (.int e2)] [])) (fun _ k => XS.icmpNo A70.here hx rfl (own_db hby at_293) rfl (teq (own_fin d1 he1)).2 k) ?_
                                    refine own_by (u' := T69.setTop (mkF m 298 #[.val (.int x1), .val (.int x2), .val (.long x3), .second, .val (.long x4), .second, .val (.long x5), .second, .val (.int o0), .val (.int o1), .val (.int o2), .val (.int se), .val (.int cl), .val (.int ag), .val (.int qq), .val (.ref (n0 + 0)), .val (.int e0), .val (.int e1), .val (.int e2)] [(.ref (n0 + 0))])) (fun _ k => XS.aload A70.here hx rfl (own_db hby at_296) rfl rfl k) ?_
                                    refine own_by (u' := T69.setTop (mkF m 299 #[.val (.int x1), .val (.int x2), .val (.long x3), .second, .val (.long x4), .second, .val (.long x5), .second, .val (.int o0), .val (.int o1), .val (.int o2), .val (.int se), .val (.int cl), .val (.int ag), .val (.int qq), .val (.ref (n0 + 0)), .val (.int e0), .val (.int e1), .val (.int e2)] [(.int (2 : Int32)), (.ref (n0 + 0))])) (fun _ k => XS.iconst A70.here hx rfl (own_db hby at_298) k) ?_
                                    refine own_callV (y := (⟨"com/example/strandwise/strandwise/network/SearchState", "isReached", "(I)Z"⟩ : MethodName)) (rest := []) A70 hx hZ hown (hw _ (List.mem_of_getElem? (i := 34) rfl)) (hw _ (List.mem_of_getElem? (i := 35) rfl)) (hw _ (List.mem_of_getElem? (i := 37) rfl)) (hw _ (List.mem_of_getElem? (i := 36) rfl)) (hw _ (List.mem_of_getElem? (i := 3) rfl)) (hw _ (List.mem_of_getElem? (i := 38) rfl)) (by decide) (i := 0) rfl (gR l Z a0 hw n0 D S H Q R rc sz (2 : Int32) hS own_vt2) (by rw [hml]; rfl) [(.int (2 : Int32))] rfl rfl pd__I_Z rfl (W := 0) (by show 2 * 0 + _ ≤ _; exact Nat.le_of_eq rfl) (own_db hby at_299) (by decide) (by decide) (by decide) (by decide) ?_
                                    intro v72 i73 T75 hq74 A76
                                    obtain ⟨rfl, he77⟩ := hq74
                                    rw [he77] at A76
                                    replace A76 : own_at p l e _ s m _ below meth c n0 T75 7 24 [(own_obj Z "com/example/strandwise/strandwise/network/SearchState" ns_SearchState [(.ref (n0 + 1)), (.ref (n0 + 2)), (.ref (n0 + 3)), (.ref (n0 + 6)), (.int rc)]), (own_la Z D), (own_ia Z .byte S), (own_obj Z "com/example/strandwise/strandwise/network/VertexHeap" ns_VertexHeap [(.ref (n0 + 1)), (.ref (n0 + 4)), (.ref (n0 + 5)), (.int sz)]), (own_ia Z .int H), (own_ia Z .int Q), (own_ia Z .int R)] := A76
                                    show own_go _ _ _ _ _ _ _ (T75.setTop (mkF m 302 #[.val (.int x1), .val (.int x2), .val (.long x3), .second, .val (.long x4), .second, .val (.long x5), .second, .val (.int o0), .val (.int o1), .val (.int o2), .val (.int se), .val (.int cl), .val (.int ag), .val (.int qq), .val (.ref (n0 + 0)), .val (.int e0), .val (.int e1), .val (.int e2)] [(.int (fR S (2 : Int32)))]))
                                    refine own_by (u' := T75.setTop (mkF m 304 #[.val (.int x1), .val (.int x2), .val (.long x3), .second, .val (.long x4), .second, .val (.long x5), .second, .val (.int o0), .val (.int o1), .val (.int o2), .val (.int se), .val (.int cl), .val (.int ag), .val (.int qq), .val (.ref (n0 + 0)), .val (.int e0), .val (.int e1), .val (.int e2)] [(.int e2), (.int (fR S (2 : Int32)))])) (fun _ k => XS.iload A76.here hx rfl (own_db hby at_302) rfl k) ?_
                                    refine own_by (u' := T75.setTop (mkF m 307 #[.val (.int x1), .val (.int x2), .val (.long x3), .second, .val (.long x4), .second, .val (.long x5), .second, .val (.int o0), .val (.int o1), .val (.int o2), .val (.int se), .val (.int cl), .val (.int ag), .val (.int qq), .val (.ref (n0 + 0)), .val (.int e0), .val (.int e1), .val (.int e2)] [])) (fun _ k => XS.icmpNo A76.here hx rfl (own_db hby at_304) rfl (teq (own_fin d2 he2)).2 k) ?_
                                    refine own_by (u' := T75.setTop (mkF m 308 #[.val (.int x1), .val (.int x2), .val (.long x3), .second, .val (.long x4), .second, .val (.long x5), .second, .val (.int o0), .val (.int o1), .val (.int o2), .val (.int se), .val (.int cl), .val (.int ag), .val (.int qq), .val (.ref (n0 + 0)), .val (.int e0), .val (.int e1), .val (.int e2)] [(.int (1 : Int32))])) (fun _ k => XS.iconst A76.here hx rfl (own_db hby at_307) k) ?_
                                    refine own_by (u' := T75.setTop (mkF m 312 #[.val (.int x1), .val (.int x2), .val (.long x3), .second, .val (.long x4), .second, .val (.long x5), .second, .val (.int o0), .val (.int o1), .val (.int o2), .val (.int se), .val (.int cl), .val (.int ag), .val (.int qq), .val (.ref (n0 + 0)), .val (.int e0), .val (.int e1), .val (.int e2)] [(.int (1 : Int32))])) (fun _ k => XS.goto A76.here hx rfl (pc0 := 308) (pc' := 312) rfl (own_db hby at_308) (by decide) (by decide) k) ?_
                                    exact own_retN A76 hx hlk (t := .boolean) (by simp) hret (own_db hby at_312) (by decide) (by decide) ⟨rfl, trivial⟩
                                  by_cases hc78 : cl = (0 : Int32)
                                  · refine own_by (u' := T55.setTop (mkF m 251 #[.val (.int x1), .val (.int x2), .val (.long x3), .second, .val (.long x4), .second, .val (.long x5), .second, .val (.int o0), .val (.int o1), .val (.int o2), .val (.int se), .val (.int cl), .val (.int ag), .val (.int qq), .val (.ref (n0 + 0)), .val (.int e0), .val (.int e1), .unset] [])) (fun _ k => XS.ifNo A56.here hx rfl (own_db hby at_248) rfl ((if0 _ _).trans (teq hc78).2) k) ?_
                                    refine own_by (u' := T55.setTop (mkF m 253 #[.val (.int x1), .val (.int x2), .val (.long x3), .second, .val (.long x4), .second, .val (.long x5), .second, .val (.int o0), .val (.int o1), .val (.int o2), .val (.int se), .val (.int cl), .val (.int ag), .val (.int qq), .val (.ref (n0 + 0)), .val (.int e0), .val (.int e1), .unset] [(.int o2)])) (fun _ k => XS.iload A56.here hx rfl (own_db hby at_251) rfl k) ?_
                                    by_cases hc79 : o2 = (0 : Int32)
                                    · refine own_by (u' := T55.setTop (mkF m 256 #[.val (.int x1), .val (.int x2), .val (.long x3), .second, .val (.long x4), .second, .val (.long x5), .second, .val (.int o0), .val (.int o1), .val (.int o2), .val (.int se), .val (.int cl), .val (.int ag), .val (.int qq), .val (.ref (n0 + 0)), .val (.int e0), .val (.int e1), .unset] [])) (fun _ k => XS.ifNo A56.here hx rfl (own_db hby at_253) rfl ((if0 _ _).trans (teq hc79).2) k) ?_
                                      refine own_by (u' := T55.setTop (mkF m 258 #[.val (.int x1), .val (.int x2), .val (.long x3), .second, .val (.long x4), .second, .val (.long x5), .second, .val (.int o0), .val (.int o1), .val (.int o2), .val (.int se), .val (.int cl), .val (.int ag), .val (.int qq), .val (.ref (n0 + 0)), .val (.int e0), .val (.int e1), .unset] [(.int ag)])) (fun _ k => XS.iload A56.here hx rfl (own_db hby at_256) rfl k) ?_
                                      by_cases hc80 : ag = (0 : Int32)
                                      · refine own_by (u' := T55.setTop (mkF m 271 #[.val (.int x1), .val (.int x2), .val (.long x3), .second, .val (.long x4), .second, .val (.long x5), .second, .val (.int o0), .val (.int o1), .val (.int o2), .val (.int se), .val (.int cl), .val (.int ag), .val (.int qq), .val (.ref (n0 + 0)), .val (.int e0), .val (.int e1), .unset] [])) (fun _ k => XS.ifYes A56.here hx rfl (pc0 := 258) (pc' := 271) rfl (own_db hby at_258) rfl ((if0 _ _).trans (teq hc80).1) (by decide) (by decide) k) ?_
                                        refine own_by (u' := T55.setTop (mkF m 272 #[.val (.int x1), .val (.int x2), .val (.long x3), .second, .val (.long x4), .second, .val (.long x5), .second, .val (.int o0), .val (.int o1), .val (.int o2), .val (.int se), .val (.int cl), .val (.int ag), .val (.int qq), .val (.ref (n0 + 0)), .val (.int e0), .val (.int e1), .unset] [(.int (0 : Int32))])) (fun _ k => XS.iconst A56.here hx rfl (own_db hby at_271) k) ?_
                                        exact J57 _ (0 : Int32) (A56) (by simp [hc78, hc79, hc80])
                                      · refine own_by (u' := T55.setTop (mkF m 261 #[.val (.int x1), .val (.int x2), .val (.long x3), .second, .val (.long x4), .second, .val (.long x5), .second, .val (.int o0), .val (.int o1), .val (.int o2), .val (.int se), .val (.int cl), .val (.int ag), .val (.int qq), .val (.ref (n0 + 0)), .val (.int e0), .val (.int e1), .unset] [])) (fun _ k => XS.ifNo A56.here hx rfl (own_db hby at_258) rfl ((if0 _ _).trans (feq hc80).1) k) ?_
                                        refine own_by (u' := T55.setTop (mkF m 263 #[.val (.int x1), .val (.int x2), .val (.long x3), .second, .val (.long x4), .second, .val (.long x5), .second, .val (.int o0), .val (.int o1), .val (.int o2), .val (.int se), .val (.int cl), .val (.int ag), .val (.int qq), .val (.ref (n0 + 0)), .val (.int e0), .val (.int e1), .unset] [(.int qq)])) (fun _ k => XS.iload A56.here hx rfl (own_db hby at_261) rfl k) ?_
                                        refine own_by (u' := T55.setTop (mkF m 264 #[.val (.int x1), .val (.int x2), .val (.long x3), .second, .val (.long x4), .second, .val (.long x5), .second, .val (.int o0), .val (.int o1), .val (.int o2), .val (.int se), .val (.int cl), .val (.int ag), .val (.int qq), .val (.ref (n0 + 0)), .val (.int e0), .val (.int e1), .unset] [(.int (2 : Int32)), (.int qq)])) (fun _ k => XS.iconst A56.here hx rfl (own_db hby at_263) k) ?_
                                        by_cases hc81 : qq = (2 : Int32)
                                        · refine own_by (u' := T55.setTop (mkF m 267 #[.val (.int x1), .val (.int x2), .val (.long x3), .second, .val (.long x4), .second, .val (.long x5), .second, .val (.int o0), .val (.int o1), .val (.int o2), .val (.int se), .val (.int cl), .val (.int ag), .val (.int qq), .val (.ref (n0 + 0)), .val (.int e0), .val (.int e1), .unset] [])) (fun _ k => XS.icmpNo A56.here hx rfl (own_db hby at_264) rfl (teq hc81).2 k) ?_
                                          refine own_by (u' := T55.setTop (mkF m 268 #[.val (.int x1), .val (.int x2), .val (.long x3), .second, .val (.long x4), .second, .val (.long x5), .second, .val (.int o0), .val (.int o1), .val (.int o2), .val (.int se), .val (.int cl), .val (.int ag), .val (.int qq), .val (.ref (n0 + 0)), .val (.int e0), .val (.int e1), .unset] [(.int (1 : Int32))])) (fun _ k => XS.iconst A56.here hx rfl (own_db hby at_267) k) ?_
                                          refine own_by (u' := T55.setTop (mkF m 272 #[.val (.int x1), .val (.int x2), .val (.long x3), .second, .val (.long x4), .second, .val (.long x5), .second, .val (.int o0), .val (.int o1), .val (.int o2), .val (.int se), .val (.int cl), .val (.int ag), .val (.int qq), .val (.ref (n0 + 0)), .val (.int e0), .val (.int e1), .unset] [(.int (1 : Int32))])) (fun _ k => XS.goto A56.here hx rfl (pc0 := 268) (pc' := 272) rfl (own_db hby at_268) (by decide) (by decide) k) ?_
                                          exact J57 _ (1 : Int32) (A56) (by simp [hc78, hc79, hc80, hc81])
                                        · refine own_by (u' := T55.setTop (mkF m 271 #[.val (.int x1), .val (.int x2), .val (.long x3), .second, .val (.long x4), .second, .val (.long x5), .second, .val (.int o0), .val (.int o1), .val (.int o2), .val (.int se), .val (.int cl), .val (.int ag), .val (.int qq), .val (.ref (n0 + 0)), .val (.int e0), .val (.int e1), .unset] [])) (fun _ k => XS.icmpYes A56.here hx rfl (pc0 := 264) (pc' := 271) rfl (own_db hby at_264) rfl (feq hc81).2 (by decide) (by decide) k) ?_
                                          refine own_by (u' := T55.setTop (mkF m 272 #[.val (.int x1), .val (.int x2), .val (.long x3), .second, .val (.long x4), .second, .val (.long x5), .second, .val (.int o0), .val (.int o1), .val (.int o2), .val (.int se), .val (.int cl), .val (.int ag), .val (.int qq), .val (.ref (n0 + 0)), .val (.int e0), .val (.int e1), .unset] [(.int (0 : Int32))])) (fun _ k => XS.iconst A56.here hx rfl (own_db hby at_271) k) ?_
                                          exact J57 _ (0 : Int32) (A56) (by simp [hc78, hc79, hc80, hc81])
                                    · refine own_by (u' := T55.setTop (mkF m 267 #[.val (.int x1), .val (.int x2), .val (.long x3), .second, .val (.long x4), .second, .val (.long x5), .second, .val (.int o0), .val (.int o1), .val (.int o2), .val (.int se), .val (.int cl), .val (.int ag), .val (.int qq), .val (.ref (n0 + 0)), .val (.int e0), .val (.int e1), .unset] [])) (fun _ k => XS.ifYes A56.here hx rfl (pc0 := 253) (pc' := 267) rfl (own_db hby at_253) rfl ((if0 _ _).trans (feq hc79).2) (by decide) (by decide) k) ?_
                                      refine own_by (u' := T55.setTop (mkF m 268 #[.val (.int x1), .val (.int x2), .val (.long x3), .second, .val (.long x4), .second, .val (.long x5), .second, .val (.int o0), .val (.int o1), .val (.int o2), .val (.int se), .val (.int cl), .val (.int ag), .val (.int qq), .val (.ref (n0 + 0)), .val (.int e0), .val (.int e1), .unset] [(.int (1 : Int32))])) (fun _ k => XS.iconst A56.here hx rfl (own_db hby at_267) k) ?_
                                      refine own_by (u' := T55.setTop (mkF m 272 #[.val (.int x1), .val (.int x2), .val (.long x3), .second, .val (.long x4), .second, .val (.long x5), .second, .val (.int o0), .val (.int o1), .val (.int o2), .val (.int se), .val (.int cl), .val (.int ag), .val (.int qq), .val (.ref (n0 + 0)), .val (.int e0), .val (.int e1), .unset] [(.int (1 : Int32))])) (fun _ k => XS.goto A56.here hx rfl (pc0 := 268) (pc' := 272) rfl (own_db hby at_268) (by decide) (by decide) k) ?_
                                      exact J57 _ (1 : Int32) (A56) (by simp [hc78, hc79])
                                  · refine own_by (u' := T55.setTop (mkF m 256 #[.val (.int x1), .val (.int x2), .val (.long x3), .second, .val (.long x4), .second, .val (.long x5), .second, .val (.int o0), .val (.int o1), .val (.int o2), .val (.int se), .val (.int cl), .val (.int ag), .val (.int qq), .val (.ref (n0 + 0)), .val (.int e0), .val (.int e1), .unset] [])) (fun _ k => XS.ifYes A56.here hx rfl (pc0 := 248) (pc' := 256) rfl (own_db hby at_248) rfl ((if0 _ _).trans (feq hc78).2) (by decide) (by decide) k) ?_
                                    refine own_by (u' := T55.setTop (mkF m 258 #[.val (.int x1), .val (.int x2), .val (.long x3), .second, .val (.long x4), .second, .val (.long x5), .second, .val (.int o0), .val (.int o1), .val (.int o2), .val (.int se), .val (.int cl), .val (.int ag), .val (.int qq), .val (.ref (n0 + 0)), .val (.int e0), .val (.int e1), .unset] [(.int ag)])) (fun _ k => XS.iload A56.here hx rfl (own_db hby at_256) rfl k) ?_
                                    by_cases hc82 : ag = (0 : Int32)
                                    · refine own_by (u' := T55.setTop (mkF m 271 #[.val (.int x1), .val (.int x2), .val (.long x3), .second, .val (.long x4), .second, .val (.long x5), .second, .val (.int o0), .val (.int o1), .val (.int o2), .val (.int se), .val (.int cl), .val (.int ag), .val (.int qq), .val (.ref (n0 + 0)), .val (.int e0), .val (.int e1), .unset] [])) (fun _ k => XS.ifYes A56.here hx rfl (pc0 := 258) (pc' := 271) rfl (own_db hby at_258) rfl ((if0 _ _).trans (teq hc82).1) (by decide) (by decide) k) ?_
                                      refine own_by (u' := T55.setTop (mkF m 272 #[.val (.int x1), .val (.int x2), .val (.long x3), .second, .val (.long x4), .second, .val (.long x5), .second, .val (.int o0), .val (.int o1), .val (.int o2), .val (.int se), .val (.int cl), .val (.int ag), .val (.int qq), .val (.ref (n0 + 0)), .val (.int e0), .val (.int e1), .unset] [(.int (0 : Int32))])) (fun _ k => XS.iconst A56.here hx rfl (own_db hby at_271) k) ?_
                                      exact J57 _ (0 : Int32) (A56) (by simp [hc78, hc82])
                                    · refine own_by (u' := T55.setTop (mkF m 261 #[.val (.int x1), .val (.int x2), .val (.long x3), .second, .val (.long x4), .second, .val (.long x5), .second, .val (.int o0), .val (.int o1), .val (.int o2), .val (.int se), .val (.int cl), .val (.int ag), .val (.int qq), .val (.ref (n0 + 0)), .val (.int e0), .val (.int e1), .unset] [])) (fun _ k => XS.ifNo A56.here hx rfl (own_db hby at_258) rfl ((if0 _ _).trans (feq hc82).1) k) ?_
                                      refine own_by (u' := T55.setTop (mkF m 263 #[.val (.int x1), .val (.int x2), .val (.long x3), .second, .val (.long x4), .second, .val (.long x5), .second, .val (.int o0), .val (.int o1), .val (.int o2), .val (.int se), .val (.int cl), .val (.int ag), .val (.int qq), .val (.ref (n0 + 0)), .val (.int e0), .val (.int e1), .unset] [(.int qq)])) (fun _ k => XS.iload A56.here hx rfl (own_db hby at_261) rfl k) ?_
                                      refine own_by (u' := T55.setTop (mkF m 264 #[.val (.int x1), .val (.int x2), .val (.long x3), .second, .val (.long x4), .second, .val (.long x5), .second, .val (.int o0), .val (.int o1), .val (.int o2), .val (.int se), .val (.int cl), .val (.int ag), .val (.int qq), .val (.ref (n0 + 0)), .val (.int e0), .val (.int e1), .unset] [(.int (2 : Int32)), (.int qq)])) (fun _ k => XS.iconst A56.here hx rfl (own_db hby at_263) k) ?_
                                      by_cases hc83 : qq = (2 : Int32)
                                      · refine own_by (u' := T55.setTop (mkF m 267 #[.val (.int x1), .val (.int x2), .val (.long x3), .second, .val (.long x4), .second, .val (.long x5), .second, .val (.int o0), .val (.int o1), .val (.int o2), .val (.int se), .val (.int cl), .val (.int ag), .val (.int qq), .val (.ref (n0 + 0)), .val (.int e0), .val (.int e1), .unset] [])) (fun _ k => XS.icmpNo A56.here hx rfl (own_db hby at_264) rfl (teq hc83).2 k) ?_
                                        refine own_by (u' := T55.setTop (mkF m 268 #[.val (.int x1), .val (.int x2), .val (.long x3), .second, .val (.long x4), .second, .val (.long x5), .second, .val (.int o0), .val (.int o1), .val (.int o2), .val (.int se), .val (.int cl), .val (.int ag), .val (.int qq), .val (.ref (n0 + 0)), .val (.int e0), .val (.int e1), .unset] [(.int (1 : Int32))])) (fun _ k => XS.iconst A56.here hx rfl (own_db hby at_267) k) ?_
                                        refine own_by (u' := T55.setTop (mkF m 272 #[.val (.int x1), .val (.int x2), .val (.long x3), .second, .val (.long x4), .second, .val (.long x5), .second, .val (.int o0), .val (.int o1), .val (.int o2), .val (.int se), .val (.int cl), .val (.int ag), .val (.int qq), .val (.ref (n0 + 0)), .val (.int e0), .val (.int e1), .unset] [(.int (1 : Int32))])) (fun _ k => XS.goto A56.here hx rfl (pc0 := 268) (pc' := 272) rfl (own_db hby at_268) (by decide) (by decide) k) ?_
                                        exact J57 _ (1 : Int32) (A56) (by simp [hc78, hc82, hc83])
                                      · refine own_by (u' := T55.setTop (mkF m 271 #[.val (.int x1), .val (.int x2), .val (.long x3), .second, .val (.long x4), .second, .val (.long x5), .second, .val (.int o0), .val (.int o1), .val (.int o2), .val (.int se), .val (.int cl), .val (.int ag), .val (.int qq), .val (.ref (n0 + 0)), .val (.int e0), .val (.int e1), .unset] [])) (fun _ k => XS.icmpYes A56.here hx rfl (pc0 := 264) (pc' := 271) rfl (own_db hby at_264) rfl (feq hc83).2 (by decide) (by decide) k) ?_
                                        refine own_by (u' := T55.setTop (mkF m 272 #[.val (.int x1), .val (.int x2), .val (.long x3), .second, .val (.long x4), .second, .val (.long x5), .second, .val (.int o0), .val (.int o1), .val (.int o2), .val (.int se), .val (.int cl), .val (.int ag), .val (.int qq), .val (.ref (n0 + 0)), .val (.int e0), .val (.int e1), .unset] [(.int (0 : Int32))])) (fun _ k => XS.iconst A56.here hx rfl (own_db hby at_271) k) ?_
                                        exact J57 _ (0 : Int32) (A56) (by simp [hc78, hc82, hc83])
                                by_cases hc84 : cl = (0 : Int32)
                                · refine own_by (u' := T52.setTop (mkF m 223 #[.val (.int x1), .val (.int x2), .val (.long x3), .second, .val (.long x4), .second, .val (.long x5), .second, .val (.int o0), .val (.int o1), .val (.int o2), .val (.int se), .val (.int cl), .val (.int ag), .val (.int qq), .val (.ref (n0 + 0)), .val (.int e0), .unset, .unset] [])) (fun _ k => XS.ifNo A53.here hx rfl (own_db hby at_220) rfl ((if0 _ _).trans (teq hc84).2) k) ?_
                                  refine own_by (u' := T52.setTop (mkF m 225 #[.val (.int x1), .val (.int x2), .val (.long x3), .second, .val (.long x4), .second, .val (.long x5), .second, .val (.int o0), .val (.int o1), .val (.int o2), .val (.int se), .val (.int cl), .val (.int ag), .val (.int qq), .val (.ref (n0 + 0)), .val (.int e0), .unset, .unset] [(.int o1)])) (fun _ k => XS.iload A53.here hx rfl (own_db hby at_223) rfl k) ?_
                                  by_cases hc85 : o1 = (0 : Int32)
                                  · refine own_by (u' := T52.setTop (mkF m 228 #[.val (.int x1), .val (.int x2), .val (.long x3), .second, .val (.long x4), .second, .val (.long x5), .second, .val (.int o0), .val (.int o1), .val (.int o2), .val (.int se), .val (.int cl), .val (.int ag), .val (.int qq), .val (.ref (n0 + 0)), .val (.int e0), .unset, .unset] [])) (fun _ k => XS.ifNo A53.here hx rfl (own_db hby at_225) rfl ((if0 _ _).trans (teq hc85).2) k) ?_
                                    refine own_by (u' := T52.setTop (mkF m 230 #[.val (.int x1), .val (.int x2), .val (.long x3), .second, .val (.long x4), .second, .val (.long x5), .second, .val (.int o0), .val (.int o1), .val (.int o2), .val (.int se), .val (.int cl), .val (.int ag), .val (.int qq), .val (.ref (n0 + 0)), .val (.int e0), .unset, .unset] [(.int ag)])) (fun _ k => XS.iload A53.here hx rfl (own_db hby at_228) rfl k) ?_
                                    by_cases hc86 : ag = (0 : Int32)
                                    · refine own_by (u' := T52.setTop (mkF m 243 #[.val (.int x1), .val (.int x2), .val (.long x3), .second, .val (.long x4), .second, .val (.long x5), .second, .val (.int o0), .val (.int o1), .val (.int o2), .val (.int se), .val (.int cl), .val (.int ag), .val (.int qq), .val (.ref (n0 + 0)), .val (.int e0), .unset, .unset] [])) (fun _ k => XS.ifYes A53.here hx rfl (pc0 := 230) (pc' := 243) rfl (own_db hby at_230) rfl ((if0 _ _).trans (teq hc86).1) (by decide) (by decide) k) ?_
                                      refine own_by (u' := T52.setTop (mkF m 244 #[.val (.int x1), .val (.int x2), .val (.long x3), .second, .val (.long x4), .second, .val (.long x5), .second, .val (.int o0), .val (.int o1), .val (.int o2), .val (.int se), .val (.int cl), .val (.int ag), .val (.int qq), .val (.ref (n0 + 0)), .val (.int e0), .unset, .unset] [(.int (0 : Int32))])) (fun _ k => XS.iconst A53.here hx rfl (own_db hby at_243) k) ?_
                                      exact J54 _ (0 : Int32) (A53) (by simp [hc84, hc85, hc86])
                                    · refine own_by (u' := T52.setTop (mkF m 233 #[.val (.int x1), .val (.int x2), .val (.long x3), .second, .val (.long x4), .second, .val (.long x5), .second, .val (.int o0), .val (.int o1), .val (.int o2), .val (.int se), .val (.int cl), .val (.int ag), .val (.int qq), .val (.ref (n0 + 0)), .val (.int e0), .unset, .unset] [])) (fun _ k => XS.ifNo A53.here hx rfl (own_db hby at_230) rfl ((if0 _ _).trans (feq hc86).1) k) ?_
                                      refine own_by (u' := T52.setTop (mkF m 235 #[.val (.int x1), .val (.int x2), .val (.long x3), .second, .val (.long x4), .second, .val (.long x5), .second, .val (.int o0), .val (.int o1), .val (.int o2), .val (.int se), .val (.int cl), .val (.int ag), .val (.int qq), .val (.ref (n0 + 0)), .val (.int e0), .unset, .unset] [(.int qq)])) (fun _ k => XS.iload A53.here hx rfl (own_db hby at_233) rfl k) ?_
                                      refine own_by (u' := T52.setTop (mkF m 236 #[.val (.int x1), .val (.int x2), .val (.long x3), .second, .val (.long x4), .second, .val (.long x5), .second, .val (.int o0), .val (.int o1), .val (.int o2), .val (.int se), .val (.int cl), .val (.int ag), .val (.int qq), .val (.ref (n0 + 0)), .val (.int e0), .unset, .unset] [(.int (1 : Int32)), (.int qq)])) (fun _ k => XS.iconst A53.here hx rfl (own_db hby at_235) k) ?_
                                      by_cases hc87 : qq = (1 : Int32)
                                      · refine own_by (u' := T52.setTop (mkF m 239 #[.val (.int x1), .val (.int x2), .val (.long x3), .second, .val (.long x4), .second, .val (.long x5), .second, .val (.int o0), .val (.int o1), .val (.int o2), .val (.int se), .val (.int cl), .val (.int ag), .val (.int qq), .val (.ref (n0 + 0)), .val (.int e0), .unset, .unset] [])) (fun _ k => XS.icmpNo A53.here hx rfl (own_db hby at_236) rfl (teq hc87).2 k) ?_
                                        refine own_by (u' := T52.setTop (mkF m 240 #[.val (.int x1), .val (.int x2), .val (.long x3), .second, .val (.long x4), .second, .val (.long x5), .second, .val (.int o0), .val (.int o1), .val (.int o2), .val (.int se), .val (.int cl), .val (.int ag), .val (.int qq), .val (.ref (n0 + 0)), .val (.int e0), .unset, .unset] [(.int (1 : Int32))])) (fun _ k => XS.iconst A53.here hx rfl (own_db hby at_239) k) ?_
                                        refine own_by (u' := T52.setTop (mkF m 244 #[.val (.int x1), .val (.int x2), .val (.long x3), .second, .val (.long x4), .second, .val (.long x5), .second, .val (.int o0), .val (.int o1), .val (.int o2), .val (.int se), .val (.int cl), .val (.int ag), .val (.int qq), .val (.ref (n0 + 0)), .val (.int e0), .unset, .unset] [(.int (1 : Int32))])) (fun _ k => XS.goto A53.here hx rfl (pc0 := 240) (pc' := 244) rfl (own_db hby at_240) (by decide) (by decide) k) ?_
                                        exact J54 _ (1 : Int32) (A53) (by simp [hc84, hc85, hc86, hc87])
                                      · refine own_by (u' := T52.setTop (mkF m 243 #[.val (.int x1), .val (.int x2), .val (.long x3), .second, .val (.long x4), .second, .val (.long x5), .second, .val (.int o0), .val (.int o1), .val (.int o2), .val (.int se), .val (.int cl), .val (.int ag), .val (.int qq), .val (.ref (n0 + 0)), .val (.int e0), .unset, .unset] [])) (fun _ k => XS.icmpYes A53.here hx rfl (pc0 := 236) (pc' := 243) rfl (own_db hby at_236) rfl (feq hc87).2 (by decide) (by decide) k) ?_
                                        refine own_by (u' := T52.setTop (mkF m 244 #[.val (.int x1), .val (.int x2), .val (.long x3), .second, .val (.long x4), .second, .val (.long x5), .second, .val (.int o0), .val (.int o1), .val (.int o2), .val (.int se), .val (.int cl), .val (.int ag), .val (.int qq), .val (.ref (n0 + 0)), .val (.int e0), .unset, .unset] [(.int (0 : Int32))])) (fun _ k => XS.iconst A53.here hx rfl (own_db hby at_243) k) ?_
                                        exact J54 _ (0 : Int32) (A53) (by simp [hc84, hc85, hc86, hc87])
                                  · refine own_by (u' := T52.setTop (mkF m 239 #[.val (.int x1), .val (.int x2), .val (.long x3), .second, .val (.long x4), .second, .val (.long x5), .second, .val (.int o0), .val (.int o1), .val (.int o2), .val (.int se), .val (.int cl), .val (.int ag), .val (.int qq), .val (.ref (n0 + 0)), .val (.int e0), .unset, .unset] [])) (fun _ k => XS.ifYes A53.here hx rfl (pc0 := 225) (pc' := 239) rfl (own_db hby at_225) rfl ((if0 _ _).trans (feq hc85).2) (by decide) (by decide) k) ?_
                                    refine own_by (u' := T52.setTop (mkF m 240 #[.val (.int x1), .val (.int x2), .val (.long x3), .second, .val (.long x4), .second, .val (.long x5), .second, .val (.int o0), .val (.int o1), .val (.int o2), .val (.int se), .val (.int cl), .val (.int ag), .val (.int qq), .val (.ref (n0 + 0)), .val (.int e0), .unset, .unset] [(.int (1 : Int32))])) (fun _ k => XS.iconst A53.here hx rfl (own_db hby at_239) k) ?_
                                    refine own_by (u' := T52.setTop (mkF m 244 #[.val (.int x1), .val (.int x2), .val (.long x3), .second, .val (.long x4), .second, .val (.long x5), .second, .val (.int o0), .val (.int o1), .val (.int o2), .val (.int se), .val (.int cl), .val (.int ag), .val (.int qq), .val (.ref (n0 + 0)), .val (.int e0), .unset, .unset] [(.int (1 : Int32))])) (fun _ k => XS.goto A53.here hx rfl (pc0 := 240) (pc' := 244) rfl (own_db hby at_240) (by decide) (by decide) k) ?_
                                    exact J54 _ (1 : Int32) (A53) (by simp [hc84, hc85])
                                · refine own_by (u' := T52.setTop (mkF m 228 #[.val (.int x1), .val (.int x2), .val (.long x3), .second, .val (.long x4), .second, .val (.long x5), .second, .val (.int o0), .val (.int o1), .val (.int o2), .val (.int se), .val (.int cl), .val (.int ag), .val (.int qq), .val (.ref (n0 + 0)), .val (.int e0), .unset, .unset] [])) (fun _ k => XS.ifYes A53.here hx rfl (pc0 := 220) (pc' := 228) rfl (own_db hby at_220) rfl ((if0 _ _).trans (feq hc84).2) (by decide) (by decide) k) ?_
                                  refine own_by (u' := T52.setTop (mkF m 230 #[.val (.int x1), .val (.int x2), .val (.long x3), .second, .val (.long x4), .second, .val (.long x5), .second, .val (.int o0), .val (.int o1), .val (.int o2), .val (.int se), .val (.int cl), .val (.int ag), .val (.int qq), .val (.ref (n0 + 0)), .val (.int e0), .unset, .unset] [(.int ag)])) (fun _ k => XS.iload A53.here hx rfl (own_db hby at_228) rfl k) ?_
                                  by_cases hc88 : ag = (0 : Int32)
                                  · refine own_by (u' := T52.setTop (mkF m 243 #[.val (.int x1), .val (.int x2), .val (.long x3), .second, .val (.long x4), .second, .val (.long x5), .second, .val (.int o0), .val (.int o1), .val (.int o2), .val (.int se), .val (.int cl), .val (.int ag), .val (.int qq), .val (.ref (n0 + 0)), .val (.int e0), .unset, .unset] [])) (fun _ k => XS.ifYes A53.here hx rfl (pc0 := 230) (pc' := 243) rfl (own_db hby at_230) rfl ((if0 _ _).trans (teq hc88).1) (by decide) (by decide) k) ?_
                                    refine own_by (u' := T52.setTop (mkF m 244 #[.val (.int x1), .val (.int x2), .val (.long x3), .second, .val (.long x4), .second, .val (.long x5), .second, .val (.int o0), .val (.int o1), .val (.int o2), .val (.int se), .val (.int cl), .val (.int ag), .val (.int qq), .val (.ref (n0 + 0)), .val (.int e0), .unset, .unset] [(.int (0 : Int32))])) (fun _ k => XS.iconst A53.here hx rfl (own_db hby at_243) k) ?_
                                    exact J54 _ (0 : Int32) (A53) (by simp [hc84, hc88])
                                  · refine own_by (u' := T52.setTop (mkF m 233 #[.val (.int x1), .val (.int x2), .val (.long x3), .second, .val (.long x4), .second, .val (.long x5), .second, .val (.int o0), .val (.int o1), .val (.int o2), .val (.int se), .val (.int cl), .val (.int ag), .val (.int qq), .val (.ref (n0 + 0)), .val (.int e0), .unset, .unset] [])) (fun _ k => XS.ifNo A53.here hx rfl (own_db hby at_230) rfl ((if0 _ _).trans (feq hc88).1) k) ?_
                                    refine own_by (u' := T52.setTop (mkF m 235 #[.val (.int x1), .val (.int x2), .val (.long x3), .second, .val (.long x4), .second, .val (.long x5), .second, .val (.int o0), .val (.int o1), .val (.int o2), .val (.int se), .val (.int cl), .val (.int ag), .val (.int qq), .val (.ref (n0 + 0)), .val (.int e0), .unset, .unset] [(.int qq)])) (fun _ k => XS.iload A53.here hx rfl (own_db hby at_233) rfl k) ?_
                                    refine own_by (u' := T52.setTop (mkF m 236 #[.val (.int x1), .val (.int x2), .val (.long x3), .second, .val (.long x4), .second, .val (.long x5), .second, .val (.int o0), .val (.int o1), .val (.int o2), .val (.int se), .val (.int cl), .val (.int ag), .val (.int qq), .val (.ref (n0 + 0)), .val (.int e0), .unset, .unset] [(.int (1 : Int32)), (.int qq)])) (fun _ k => XS.iconst A53.here hx rfl (own_db hby at_235) k) ?_
                                    by_cases hc89 : qq = (1 : Int32)
                                    · refine own_by (u' := T52.setTop (mkF m 239 #[.val (.int x1), .val (.int x2), .val (.long x3), .second, .val (.long x4), .second, .val (.long x5), .second, .val (.int o0), .val (.int o1), .val (.int o2), .val (.int se), .val (.int cl), .val (.int ag), .val (.int qq), .val (.ref (n0 + 0)), .val (.int e0), .unset, .unset] [])) (fun _ k => XS.icmpNo A53.here hx rfl (own_db hby at_236) rfl (teq hc89).2 k) ?_
                                      refine own_by (u' := T52.setTop (mkF m 240 #[.val (.int x1), .val (.int x2), .val (.long x3), .second, .val (.long x4), .second, .val (.long x5), .second, .val (.int o0), .val (.int o1), .val (.int o2), .val (.int se), .val (.int cl), .val (.int ag), .val (.int qq), .val (.ref (n0 + 0)), .val (.int e0), .unset, .unset] [(.int (1 : Int32))])) (fun _ k => XS.iconst A53.here hx rfl (own_db hby at_239) k) ?_
                                      refine own_by (u' := T52.setTop (mkF m 244 #[.val (.int x1), .val (.int x2), .val (.long x3), .second, .val (.long x4), .second, .val (.long x5), .second, .val (.int o0), .val (.int o1), .val (.int o2), .val (.int se), .val (.int cl), .val (.int ag), .val (.int qq), .val (.ref (n0 + 0)), .val (.int e0), .unset, .unset] [(.int (1 : Int32))])) (fun _ k => XS.goto A53.here hx rfl (pc0 := 240) (pc' := 244) rfl (own_db hby at_240) (by decide) (by decide) k) ?_
                                      exact J54 _ (1 : Int32) (A53) (by simp [hc84, hc88, hc89])
                                    · refine own_by (u' := T52.setTop (mkF m 243 #[.val (.int x1), .val (.int x2), .val (.long x3), .second, .val (.long x4), .second, .val (.long x5), .second, .val (.int o0), .val (.int o1), .val (.int o2), .val (.int se), .val (.int cl), .val (.int ag), .val (.int qq), .val (.ref (n0 + 0)), .val (.int e0), .unset, .unset] [])) (fun _ k => XS.icmpYes A53.here hx rfl (pc0 := 236) (pc' := 243) rfl (own_db hby at_236) rfl (feq hc89).2 (by decide) (by decide) k) ?_
                                      refine own_by (u' := T52.setTop (mkF m 244 #[.val (.int x1), .val (.int x2), .val (.long x3), .second, .val (.long x4), .second, .val (.long x5), .second, .val (.int o0), .val (.int o1), .val (.int o2), .val (.int se), .val (.int cl), .val (.int ag), .val (.int qq), .val (.ref (n0 + 0)), .val (.int e0), .unset, .unset] [(.int (0 : Int32))])) (fun _ k => XS.iconst A53.here hx rfl (own_db hby at_243) k) ?_
                                      exact J54 _ (0 : Int32) (A53) (by simp [hc84, hc88, hc89])
                              by_cases hc90 : cl = (0 : Int32)
                              · refine own_by (u' := T49.setTop (mkF m 196 #[.val (.int x1), .val (.int x2), .val (.long x3), .second, .val (.long x4), .second, .val (.long x5), .second, .val (.int o0), .val (.int o1), .val (.int o2), .val (.int se), .val (.int cl), .val (.int ag), .val (.int qq), .val (.ref (n0 + 0)), .unset, .unset, .unset] [])) (fun _ k => XS.ifNo A50.here hx rfl (own_db hby at_193) rfl ((if0 _ _).trans (teq hc90).2) k) ?_
                                refine own_by (u' := T49.setTop (mkF m 198 #[.val (.int x1), .val (.int x2), .val (.long x3), .second, .val (.long x4), .second, .val (.long x5), .second, .val (.int o0), .val (.int o1), .val (.int o2), .val (.int se), .val (.int cl), .val (.int ag), .val (.int qq), .val (.ref (n0 + 0)), .unset, .unset, .unset] [(.int o0)])) (fun _ k => XS.iload A50.here hx rfl (own_db hby at_196) rfl k) ?_
                                by_cases hc91 : o0 = (0 : Int32)
                                · refine own_by (u' := T49.setTop (mkF m 201 #[.val (.int x1), .val (.int x2), .val (.long x3), .second, .val (.long x4), .second, .val (.long x5), .second, .val (.int o0), .val (.int o1), .val (.int o2), .val (.int se), .val (.int cl), .val (.int ag), .val (.int qq), .val (.ref (n0 + 0)), .unset, .unset, .unset] [])) (fun _ k => XS.ifNo A50.here hx rfl (own_db hby at_198) rfl ((if0 _ _).trans (teq hc91).2) k) ?_
                                  refine own_by (u' := T49.setTop (mkF m 203 #[.val (.int x1), .val (.int x2), .val (.long x3), .second, .val (.long x4), .second, .val (.long x5), .second, .val (.int o0), .val (.int o1), .val (.int o2), .val (.int se), .val (.int cl), .val (.int ag), .val (.int qq), .val (.ref (n0 + 0)), .unset, .unset, .unset] [(.int ag)])) (fun _ k => XS.iload A50.here hx rfl (own_db hby at_201) rfl k) ?_
                                  by_cases hc92 : ag = (0 : Int32)
                                  · refine own_by (u' := T49.setTop (mkF m 215 #[.val (.int x1), .val (.int x2), .val (.long x3), .second, .val (.long x4), .second, .val (.long x5), .second, .val (.int o0), .val (.int o1), .val (.int o2), .val (.int se), .val (.int cl), .val (.int ag), .val (.int qq), .val (.ref (n0 + 0)), .unset, .unset, .unset] [])) (fun _ k => XS.ifYes A50.here hx rfl (pc0 := 203) (pc' := 215) rfl (own_db hby at_203) rfl ((if0 _ _).trans (teq hc92).1) (by decide) (by decide) k) ?_
                                    refine own_by (u' := T49.setTop (mkF m 216 #[.val (.int x1), .val (.int x2), .val (.long x3), .second, .val (.long x4), .second, .val (.long x5), .second, .val (.int o0), .val (.int o1), .val (.int o2), .val (.int se), .val (.int cl), .val (.int ag), .val (.int qq), .val (.ref (n0 + 0)), .unset, .unset, .unset] [(.int (0 : Int32))])) (fun _ k => XS.iconst A50.here hx rfl (own_db hby at_215) k) ?_
                                    exact J51 _ (0 : Int32) (A50) (by simp [hc90, hc91, hc92])
                                  · refine own_by (u' := T49.setTop (mkF m 206 #[.val (.int x1), .val (.int x2), .val (.long x3), .second, .val (.long x4), .second, .val (.long x5), .second, .val (.int o0), .val (.int o1), .val (.int o2), .val (.int se), .val (.int cl), .val (.int ag), .val (.int qq), .val (.ref (n0 + 0)), .unset, .unset, .unset] [])) (fun _ k => XS.ifNo A50.here hx rfl (own_db hby at_203) rfl ((if0 _ _).trans (feq hc92).1) k) ?_
                                    refine own_by (u' := T49.setTop (mkF m 208 #[.val (.int x1), .val (.int x2), .val (.long x3), .second, .val (.long x4), .second, .val (.long x5), .second, .val (.int o0), .val (.int o1), .val (.int o2), .val (.int se), .val (.int cl), .val (.int ag), .val (.int qq), .val (.ref (n0 + 0)), .unset, .unset, .unset] [(.int qq)])) (fun _ k => XS.iload A50.here hx rfl (own_db hby at_206) rfl k) ?_
                                    by_cases hc93 : qq = (0 : Int32)
                                    · refine own_by (u' := T49.setTop (mkF m 211 #[.val (.int x1), .val (.int x2), .val (.long x3), .second, .val (.long x4), .second, .val (.long x5), .second, .val (.int o0), .val (.int o1), .val (.int o2), .val (.int se), .val (.int cl), .val (.int ag), .val (.int qq), .val (.ref (n0 + 0)), .unset, .unset, .unset] [])) (fun _ k => XS.ifNo A50.here hx rfl (own_db hby at_208) rfl ((if0 _ _).trans (teq hc93).2) k) ?_
                                      refine own_by (u' := T49.setTop (mkF m 212 #[.val (.int x1), .val (.int x2), .val (.long x3), .second, .val (.long x4), .second, .val (.long x5), .second, .val (.int o0), .val (.int o1), .val (.int o2), .val (.int se), .val (.int cl), .val (.int ag), .val (.int qq), .val (.ref (n0 + 0)), .unset, .unset, .unset] [(.int (1 : Int32))])) (fun _ k => XS.iconst A50.here hx rfl (own_db hby at_211) k) ?_
                                      refine own_by (u' := T49.setTop (mkF m 216 #[.val (.int x1), .val (.int x2), .val (.long x3), .second, .val (.long x4), .second, .val (.long x5), .second, .val (.int o0), .val (.int o1), .val (.int o2), .val (.int se), .val (.int cl), .val (.int ag), .val (.int qq), .val (.ref (n0 + 0)), .unset, .unset, .unset] [(.int (1 : Int32))])) (fun _ k => XS.goto A50.here hx rfl (pc0 := 212) (pc' := 216) rfl (own_db hby at_212) (by decide) (by decide) k) ?_
                                      exact J51 _ (1 : Int32) (A50) (by simp [hc90, hc91, hc92, hc93])
                                    · refine own_by (u' := T49.setTop (mkF m 215 #[.val (.int x1), .val (.int x2), .val (.long x3), .second, .val (.long x4), .second, .val (.long x5), .second, .val (.int o0), .val (.int o1), .val (.int o2), .val (.int se), .val (.int cl), .val (.int ag), .val (.int qq), .val (.ref (n0 + 0)), .unset, .unset, .unset] [])) (fun _ k => XS.ifYes A50.here hx rfl (pc0 := 208) (pc' := 215) rfl (own_db hby at_208) rfl ((if0 _ _).trans (feq hc93).2) (by decide) (by decide) k) ?_
                                      refine own_by (u' := T49.setTop (mkF m 216 #[.val (.int x1), .val (.int x2), .val (.long x3), .second, .val (.long x4), .second, .val (.long x5), .second, .val (.int o0), .val (.int o1), .val (.int o2), .val (.int se), .val (.int cl), .val (.int ag), .val (.int qq), .val (.ref (n0 + 0)), .unset, .unset, .unset] [(.int (0 : Int32))])) (fun _ k => XS.iconst A50.here hx rfl (own_db hby at_215) k) ?_
                                      exact J51 _ (0 : Int32) (A50) (by simp [hc90, hc91, hc92, hc93])
                                · refine own_by (u' := T49.setTop (mkF m 211 #[.val (.int x1), .val (.int x2), .val (.long x3), .second, .val (.long x4), .second, .val (.long x5), .second, .val (.int o0), .val (.int o1), .val (.int o2), .val (.int se), .val (.int cl), .val (.int ag), .val (.int qq), .val (.ref (n0 + 0)), .unset, .unset, .unset] [])) (fun _ k => XS.ifYes A50.here hx rfl (pc0 := 198) (pc' := 211) rfl (own_db hby at_198) rfl ((if0 _ _).trans (feq hc91).2) (by decide) (by decide) k) ?_
                                  refine own_by (u' := T49.setTop (mkF m 212 #[.val (.int x1), .val (.int x2), .val (.long x3), .second, .val (.long x4), .second, .val (.long x5), .second, .val (.int o0), .val (.int o1), .val (.int o2), .val (.int se), .val (.int cl), .val (.int ag), .val (.int qq), .val (.ref (n0 + 0)), .unset, .unset, .unset] [(.int (1 : Int32))])) (fun _ k => XS.iconst A50.here hx rfl (own_db hby at_211) k) ?_
                                  refine own_by (u' := T49.setTop (mkF m 216 #[.val (.int x1), .val (.int x2), .val (.long x3), .second, .val (.long x4), .second, .val (.long x5), .second, .val (.int o0), .val (.int o1), .val (.int o2), .val (.int se), .val (.int cl), .val (.int ag), .val (.int qq), .val (.ref (n0 + 0)), .unset, .unset, .unset] [(.int (1 : Int32))])) (fun _ k => XS.goto A50.here hx rfl (pc0 := 212) (pc' := 216) rfl (own_db hby at_212) (by decide) (by decide) k) ?_
                                  exact J51 _ (1 : Int32) (A50) (by simp [hc90, hc91])
                              · refine own_by (u' := T49.setTop (mkF m 201 #[.val (.int x1), .val (.int x2), .val (.long x3), .second, .val (.long x4), .second, .val (.long x5), .second, .val (.int o0), .val (.int o1), .val (.int o2), .val (.int se), .val (.int cl), .val (.int ag), .val (.int qq), .val (.ref (n0 + 0)), .unset, .unset, .unset] [])) (fun _ k => XS.ifYes A50.here hx rfl (pc0 := 193) (pc' := 201) rfl (own_db hby at_193) rfl ((if0 _ _).trans (feq hc90).2) (by decide) (by decide) k) ?_
                                refine own_by (u' := T49.setTop (mkF m 203 #[.val (.int x1), .val (.int x2), .val (.long x3), .second, .val (.long x4), .second, .val (.long x5), .second, .val (.int o0), .val (.int o1), .val (.int o2), .val (.int se), .val (.int cl), .val (.int ag), .val (.int qq), .val (.ref (n0 + 0)), .unset, .unset, .unset] [(.int ag)])) (fun _ k => XS.iload A50.here hx rfl (own_db hby at_201) rfl k) ?_
                                by_cases hc94 : ag = (0 : Int32)
                                · refine own_by (u' := T49.setTop (mkF m 215 #[.val (.int x1), .val (.int x2), .val (.long x3), .second, .val (.long x4), .second, .val (.long x5), .second, .val (.int o0), .val (.int o1), .val (.int o2), .val (.int se), .val (.int cl), .val (.int ag), .val (.int qq), .val (.ref (n0 + 0)), .unset, .unset, .unset] [])) (fun _ k => XS.ifYes A50.here hx rfl (pc0 := 203) (pc' := 215) rfl (own_db hby at_203) rfl ((if0 _ _).trans (teq hc94).1) (by decide) (by decide) k) ?_
                                  refine own_by (u' := T49.setTop (mkF m 216 #[.val (.int x1), .val (.int x2), .val (.long x3), .second, .val (.long x4), .second, .val (.long x5), .second, .val (.int o0), .val (.int o1), .val (.int o2), .val (.int se), .val (.int cl), .val (.int ag), .val (.int qq), .val (.ref (n0 + 0)), .unset, .unset, .unset] [(.int (0 : Int32))])) (fun _ k => XS.iconst A50.here hx rfl (own_db hby at_215) k) ?_
                                  exact J51 _ (0 : Int32) (A50) (by simp [hc90, hc94])
                                · refine own_by (u' := T49.setTop (mkF m 206 #[.val (.int x1), .val (.int x2), .val (.long x3), .second, .val (.long x4), .second, .val (.long x5), .second, .val (.int o0), .val (.int o1), .val (.int o2), .val (.int se), .val (.int cl), .val (.int ag), .val (.int qq), .val (.ref (n0 + 0)), .unset, .unset, .unset] [])) (fun _ k => XS.ifNo A50.here hx rfl (own_db hby at_203) rfl ((if0 _ _).trans (feq hc94).1) k) ?_
                                  refine own_by (u' := T49.setTop (mkF m 208 #[.val (.int x1), .val (.int x2), .val (.long x3), .second, .val (.long x4), .second, .val (.long x5), .second, .val (.int o0), .val (.int o1), .val (.int o2), .val (.int se), .val (.int cl), .val (.int ag), .val (.int qq), .val (.ref (n0 + 0)), .unset, .unset, .unset] [(.int qq)])) (fun _ k => XS.iload A50.here hx rfl (own_db hby at_206) rfl k) ?_
                                  by_cases hc95 : qq = (0 : Int32)
                                  · refine own_by (u' := T49.setTop (mkF m 211 #[.val (.int x1), .val (.int x2), .val (.long x3), .second, .val (.long x4), .second, .val (.long x5), .second, .val (.int o0), .val (.int o1), .val (.int o2), .val (.int se), .val (.int cl), .val (.int ag), .val (.int qq), .val (.ref (n0 + 0)), .unset, .unset, .unset] [])) (fun _ k => XS.ifNo A50.here hx rfl (own_db hby at_208) rfl ((if0 _ _).trans (teq hc95).2) k) ?_
                                    refine own_by (u' := T49.setTop (mkF m 212 #[.val (.int x1), .val (.int x2), .val (.long x3), .second, .val (.long x4), .second, .val (.long x5), .second, .val (.int o0), .val (.int o1), .val (.int o2), .val (.int se), .val (.int cl), .val (.int ag), .val (.int qq), .val (.ref (n0 + 0)), .unset, .unset, .unset] [(.int (1 : Int32))])) (fun _ k => XS.iconst A50.here hx rfl (own_db hby at_211) k) ?_
                                    refine own_by (u' := T49.setTop (mkF m 216 #[.val (.int x1), .val (.int x2), .val (.long x3), .second, .val (.long x4), .second, .val (.long x5), .second, .val (.int o0), .val (.int o1), .val (.int o2), .val (.int se), .val (.int cl), .val (.int ag), .val (.int qq), .val (.ref (n0 + 0)), .unset, .unset, .unset] [(.int (1 : Int32))])) (fun _ k => XS.goto A50.here hx rfl (pc0 := 212) (pc' := 216) rfl (own_db hby at_212) (by decide) (by decide) k) ?_
                                    exact J51 _ (1 : Int32) (A50) (by simp [hc90, hc94, hc95])
                                  · refine own_by (u' := T49.setTop (mkF m 215 #[.val (.int x1), .val (.int x2), .val (.long x3), .second, .val (.long x4), .second, .val (.long x5), .second, .val (.int o0), .val (.int o1), .val (.int o2), .val (.int se), .val (.int cl), .val (.int ag), .val (.int qq), .val (.ref (n0 + 0)), .unset, .unset, .unset] [])) (fun _ k => XS.ifYes A50.here hx rfl (pc0 := 208) (pc' := 215) rfl (own_db hby at_208) rfl ((if0 _ _).trans (feq hc95).2) (by decide) (by decide) k) ?_
                                    refine own_by (u' := T49.setTop (mkF m 216 #[.val (.int x1), .val (.int x2), .val (.long x3), .second, .val (.long x4), .second, .val (.long x5), .second, .val (.int o0), .val (.int o1), .val (.int o2), .val (.int se), .val (.int cl), .val (.int ag), .val (.int qq), .val (.ref (n0 + 0)), .unset, .unset, .unset] [(.int (0 : Int32))])) (fun _ k => XS.iconst A50.here hx rfl (own_db hby at_215) k) ?_
                                    exact J51 _ (0 : Int32) (A50) (by simp [hc90, hc94, hc95])
                            by_cases hc96 : ag = (0 : Int32)
                            · refine own_by (u' := T46.setTop (mkF m 191 #[.val (.int x1), .val (.int x2), .val (.long x3), .second, .val (.long x4), .second, .val (.long x5), .second, .val (.int o0), .val (.int o1), .val (.int o2), .val (.int se), .val (.int cl), .val (.int ag), .val (.int qq), .val (.ref (n0 + 0)), .unset, .unset, .unset] [])) (fun _ k => XS.ifYes A47.here hx rfl (pc0 := 178) (pc' := 191) rfl (own_db hby at_178) rfl ((if0 _ _).trans (teq hc96).1) (by decide) (by decide) k) ?_
                              exact J48 _ (D) (S) (H) (Q) (R) (rc) (sz) (A47) iv.1 (by rw [c0]; simp [hc96]) (by rw [c1]; simp [hc96]) (by rw [c2]; simp [hc96])
                            · refine own_by (u' := T46.setTop (mkF m 181 #[.val (.int x1), .val (.int x2), .val (.long x3), .second, .val (.long x4), .second, .val (.long x5), .second, .val (.int o0), .val (.int o1), .val (.int o2), .val (.int se), .val (.int cl), .val (.int ag), .val (.int qq), .val (.ref (n0 + 0)), .unset, .unset, .unset] [])) (fun _ k => XS.ifNo A47.here hx rfl (own_db hby at_178) rfl ((if0 _ _).trans (feq hc96).1) k) ?_
                              refine own_by (u' := T46.setTop (mkF m 183 #[.val (.int x1), .val (.int x2), .val (.long x3), .second, .val (.long x4), .second, .val (.long x5), .second, .val (.int o0), .val (.int o1), .val (.int o2), .val (.int se), .val (.int cl), .val (.int ag), .val (.int qq), .val (.ref (n0 + 0)), .unset, .unset, .unset] [(.ref (n0 + 0))])) (fun _ k => XS.aload A47.here hx rfl (own_db hby at_181) rfl rfl k) ?_
                              refine own_by (u' := T46.setTop (mkF m 185 #[.val (.int x1), .val (.int x2), .val (.long x3), .second, .val (.long x4), .second, .val (.long x5), .second, .val (.int o0), .val (.int o1), .val (.int o2), .val (.int se), .val (.int cl), .val (.int ag), .val (.int qq), .val (.ref (n0 + 0)), .unset, .unset, .unset] [(.int qq), (.ref (n0 + 0))])) (fun _ k => XS.iload A47.here hx rfl (own_db hby at_183) rfl k) ?_
                              refine own_by (u' := T46.setTop (mkF m 187 #[.val (.int x1), .val (.int x2), .val (.long x3), .second, .val (.long x4), .second, .val (.long x5), .second, .val (.int o0), .val (.int o1), .val (.int o2), .val (.int se), .val (.int cl), .val (.int ag), .val (.int qq), .val (.ref (n0 + 0)), .unset, .unset, .unset] [(.long x4), (.int qq), (.ref (n0 + 0))])) (fun _ k => XS.lload A47.here hx rfl (own_db hby at_185) rfl k) ?_
                              refine own_callV (y := (⟨"com/example/strandwise/strandwise/network/SearchState", "offer", "(IJ)Z"⟩ : MethodName)) (rest := []) A47 hx hZ hown (hw _ (List.mem_of_getElem? (i := 39) rfl)) (hw _ (List.mem_of_getElem? (i := 40) rfl)) (hw _ (List.mem_of_getElem? (i := 42) rfl)) (hw _ (List.mem_of_getElem? (i := 41) rfl)) (hw _ (List.mem_of_getElem? (i := 3) rfl)) (hw _ (List.mem_of_getElem? (i := 43) rfl)) (by decide) (i := 0) rfl (gO l Z a0 hw n0 D S H Q R rc sz qq x4 (fun x => own_g S x ≠ 0) (fun x => own_g (S.set qq.toNatClampNeg 1) x ≠ 0) hD iv.1 iv.2.1 hqq iv.2.2.2.1 (own_ivh iv hqq)) (by rw [hml]; rfl) [(.int qq), (.long x4)] rfl rfl pd__IJ_Z rfl (W := 0) (by show 2 * 0 + _ ≤ _; exact Nat.le_of_eq rfl) (own_db hby at_187) (by decide) (by decide) (by decide) (by decide) ?_
                              intro v108 i109 T111 hq110 A112
                              obtain ⟨⟨z101, rfl⟩, hA, hB⟩ := hq110
                              obtain ⟨D97, S102, H98, Q99, R103, rc104, sz105, hS106, hr107, rfl⟩ := own_offW Z n0 iv.1 hqq hA hB
                              replace A112 : own_at p l e _ s m _ below meth c n0 T111 7 24 [(own_obj Z "com/example/strandwise/strandwise/network/SearchState" ns_SearchState [(.ref (n0 + 1)), (.ref (n0 + 2)), (.ref (n0 + 3)), (.ref (n0 + 6)), (.int rc104)]), (own_la Z D97), (own_ia Z .byte S102), (own_obj Z "com/example/strandwise/strandwise/network/VertexHeap" ns_VertexHeap [(.ref (n0 + 1)), (.ref (n0 + 4)), (.ref (n0 + 5)), (.int sz105)]), (own_ia Z .int H98), (own_ia Z .int Q99), (own_ia Z .int R103)] := A112
                              show own_go _ _ _ _ _ _ _ (T111.setTop (mkF m 190 #[.val (.int x1), .val (.int x2), .val (.long x3), .second, .val (.long x4), .second, .val (.long x5), .second, .val (.int o0), .val (.int o1), .val (.int o2), .val (.int se), .val (.int cl), .val (.int ag), .val (.int qq), .val (.ref (n0 + 0)), .unset, .unset, .unset] [(.int z101)]))
                              refine own_by (u' := T111.setTop (mkF m 191 #[.val (.int x1), .val (.int x2), .val (.long x3), .second, .val (.long x4), .second, .val (.long x5), .second, .val (.int o0), .val (.int o1), .val (.int o2), .val (.int se), .val (.int cl), .val (.int ag), .val (.int qq), .val (.ref (n0 + 0)), .unset, .unset, .unset] [])) (fun _ k => XS.pop A112.here hx rfl (own_db hby at_190) rfl rfl k) ?_
                              exact J48 _ (D97) (S102) (H98) (Q99) (R103) (rc104) (sz105) (A112) hS106 ((hr107 _ own_vt0).trans (by rw [c0]; simp [hc96])) ((hr107 _ own_vt1).trans (by rw [c1]; simp [hc96])) ((hr107 _ own_vt2).trans (by rw [c2]; simp [hc96]))
                          by_cases hc113 : cl = (0 : Int32)
                          · refine own_by (u' := T43.setTop (mkF m 176 #[.val (.int x1), .val (.int x2), .val (.long x3), .second, .val (.long x4), .second, .val (.long x5), .second, .val (.int o0), .val (.int o1), .val (.int o2), .val (.int se), .val (.int cl), .val (.int ag), .val (.int qq), .val (.ref (n0 + 0)), .unset, .unset, .unset] [])) (fun _ k => XS.ifYes A44.here hx rfl (pc0 := 168) (pc' := 176) rfl (own_db hby at_168) rfl ((if0 _ _).trans (teq hc113).1) (by decide) (by decide) k) ?_
                            exact J45 _ (D) (S) (H) (Q) (R) (rc) (sz) (A44) hD iv ⟨fun z => Or.inr (q0.mp z), fun z => q0.mpr (z.resolve_left (fun y => y hc113))⟩ ⟨fun z => Or.inr (q1.mp z), fun z => q1.mpr (z.resolve_left (fun y => y hc113))⟩ ⟨fun z => Or.inr (q2.mp z), fun z => q2.mpr (z.resolve_left (fun y => y hc113))⟩
                          · refine own_by (u' := T43.setTop (mkF m 171 #[.val (.int x1), .val (.int x2), .val (.long x3), .second, .val (.long x4), .second, .val (.long x5), .second, .val (.int o0), .val (.int o1), .val (.int o2), .val (.int se), .val (.int cl), .val (.int ag), .val (.int qq), .val (.ref (n0 + 0)), .unset, .unset, .unset] [])) (fun _ k => XS.ifNo A44.here hx rfl (own_db hby at_168) rfl ((if0 _ _).trans (feq hc113).1) k) ?_
                            refine own_by (u' := T43.setTop (mkF m 173 #[.val (.int x1), .val (.int x2), .val (.long x3), .second, .val (.long x4), .second, .val (.long x5), .second, .val (.int o0), .val (.int o1), .val (.int o2), .val (.int se), .val (.int cl), .val (.int ag), .val (.int qq), .val (.ref (n0 + 0)), .unset, .unset, .unset] [(.ref (n0 + 0))])) (fun _ k => XS.aload A44.here hx rfl (own_db hby at_171) rfl rfl k) ?_
                            refine own_callV (y := (⟨"com/example/strandwise/strandwise/network/SearchState", "clear", "()V"⟩ : MethodName)) (rest := []) A44 hx hZ hown (hw _ (List.mem_of_getElem? (i := 79) rfl)) (hw _ (List.mem_of_getElem? (i := 80) rfl)) (hw _ (List.mem_of_getElem? (i := 82) rfl)) (hw _ (List.mem_of_getElem? (i := 81) rfl)) (hw _ (List.mem_of_getElem? (i := 3) rfl)) (hw _ (List.mem_of_getElem? (i := 83) rfl)) (by decide) (i := 0) rfl (gK l Z a0 hw n0 D S H Q R rc sz iv.1 iv.2.1 iv.2.2.1 (own_rcb iv)) (by rw [hml]; rfl) [] rfl rfl pd___V rfl (W := 0) (by show 2 * 0 + _ ≤ _; exact Nat.le_of_eq rfl) (own_db hby at_173) (by decide) (by decide) (by decide) (by decide) ?_
                            intro v117 i118 T120 hq119 A121
                            obtain ⟨rfl, S114, hS115, hz116, rfl⟩ := hq119
                            replace A121 : own_at p l e _ s m _ below meth c n0 T120 7 24 [(own_obj Z "com/example/strandwise/strandwise/network/SearchState" ns_SearchState [(.ref (n0 + 1)), (.ref (n0 + 2)), (.ref (n0 + 3)), (.ref (n0 + 6)), (.int (0 : Int32))]), (own_la Z D), (own_ia Z .byte S114), (own_obj Z "com/example/strandwise/strandwise/network/VertexHeap" ns_VertexHeap [(.ref (n0 + 1)), (.ref (n0 + 4)), (.ref (n0 + 5)), (.int (0 : Int32))]), (own_ia Z .int H), (own_ia Z .int Q), (own_ia Z .int R)] := A121
                            show own_go _ _ _ _ _ _ _ (T120.setTop (mkF m 176 #[.val (.int x1), .val (.int x2), .val (.long x3), .second, .val (.long x4), .second, .val (.long x5), .second, .val (.int o0), .val (.int o1), .val (.int o2), .val (.int se), .val (.int cl), .val (.int ag), .val (.int qq), .val (.ref (n0 + 0)), .unset, .unset, .unset] []))
                            exact J45 _ (D) (S114) (H) (Q) (R) ((0 : Int32)) ((0 : Int32)) (A121) hD (own_ivK iv hS115 (own_allz iv.2.2.2.2.2.2.2 hz116)) ⟨fun _ => Or.inl hc113, fun _ => own_allz iv.2.2.2.2.2.2.2 hz116 _ own_vt0⟩ ⟨fun _ => Or.inl hc113, fun _ => own_allz iv.2.2.2.2.2.2.2 hz116 _ own_vt1⟩ ⟨fun _ => Or.inl hc113, fun _ => own_allz iv.2.2.2.2.2.2.2 hz116 _ own_vt2⟩
                        by_cases hc122 : se = (0 : Int32)
                        · refine own_by (u' := T40.setTop (mkF m 166 #[.val (.int x1), .val (.int x2), .val (.long x3), .second, .val (.long x4), .second, .val (.long x5), .second, .val (.int o0), .val (.int o1), .val (.int o2), .val (.int se), .val (.int cl), .val (.int ag), .val (.int qq), .val (.ref (n0 + 0)), .unset, .unset, .unset] [])) (fun _ k => XS.ifYes A41.here hx rfl (pc0 := 142) (pc' := 166) rfl (own_db hby at_142) rfl ((if0 _ _).trans (teq hc122).1) (by decide) (by decide) k) ?_
                          exact J42 _ (D) (S) (H) (Q) (R) (rc) (sz) (A41) hD iv (by rw [r0]) (by rw [r1]) (by rw [r2])
                        · refine own_by (u' := T40.setTop (mkF m 145 #[.val (.int x1), .val (.int x2), .val (.long x3), .second, .val (.long x4), .second, .val (.long x5), .second, .val (.int o0), .val (.int o1), .val (.int o2), .val (.int se), .val (.int cl), .val (.int ag), .val (.int qq), .val (.ref (n0 + 0)), .unset, .unset, .unset] [])) (fun _ k => XS.ifNo A41.here hx rfl (own_db hby at_142) rfl ((if0 _ _).trans (feq hc122).1) k) ?_
                          refine own_by (u' := T40.setTop (mkF m 147 #[.val (.int x1), .val (.int x2), .val (.long x3), .second, .val (.long x4), .second, .val (.long x5), .second, .val (.int o0), .val (.int o1), .val (.int o2), .val (.int se), .val (.int cl), .val (.int ag), .val (.int qq), .val (.ref (n0 + 0)), .unset, .unset, .unset] [(.int o0)])) (fun _ k => XS.iload A41.here hx rfl (own_db hby at_145) rfl k) ?_
                          by_cases hc123 : o0 = (0 : Int32)
                          · refine own_by (u' := T40.setTop (mkF m 150 #[.val (.int x1), .val (.int x2), .val (.long x3), .second, .val (.long x4), .second, .val (.long x5), .second, .val (.int o0), .val (.int o1), .val (.int o2), .val (.int se), .val (.int cl), .val (.int ag), .val (.int qq), .val (.ref (n0 + 0)), .unset, .unset, .unset] [])) (fun _ k => XS.ifNo A41.here hx rfl (own_db hby at_147) rfl ((if0 _ _).trans (teq hc123).2) k) ?_
                            refine own_by (u' := T40.setTop (mkF m 152 #[.val (.int x1), .val (.int x2), .val (.long x3), .second, .val (.long x4), .second, .val (.long x5), .second, .val (.int o0), .val (.int o1), .val (.int o2), .val (.int se), .val (.int cl), .val (.int ag), .val (.int qq), .val (.ref (n0 + 0)), .unset, .unset, .unset] [(.int o1)])) (fun _ k => XS.iload A41.here hx rfl (own_db hby at_150) rfl k) ?_
                            by_cases hc124 : o1 = (0 : Int32)
                            · refine own_by (u' := T40.setTop (mkF m 155 #[.val (.int x1), .val (.int x2), .val (.long x3), .second, .val (.long x4), .second, .val (.long x5), .second, .val (.int o0), .val (.int o1), .val (.int o2), .val (.int se), .val (.int cl), .val (.int ag), .val (.int qq), .val (.ref (n0 + 0)), .unset, .unset, .unset] [])) (fun _ k => XS.ifNo A41.here hx rfl (own_db hby at_152) rfl ((if0 _ _).trans (teq hc124).2) k) ?_
                              refine own_by (u' := T40.setTop (mkF m 157 #[.val (.int x1), .val (.int x2), .val (.long x3), .second, .val (.long x4), .second, .val (.long x5), .second, .val (.int o0), .val (.int o1), .val (.int o2), .val (.int se), .val (.int cl), .val (.int ag), .val (.int qq), .val (.ref (n0 + 0)), .unset, .unset, .unset] [(.int o2)])) (fun _ k => XS.iload A41.here hx rfl (own_db hby at_155) rfl k) ?_
                              by_cases hc125 : o2 = (0 : Int32)
                              · refine own_by (u' := T40.setTop (mkF m 166 #[.val (.int x1), .val (.int x2), .val (.long x3), .second, .val (.long x4), .second, .val (.long x5), .second, .val (.int o0), .val (.int o1), .val (.int o2), .val (.int se), .val (.int cl), .val (.int ag), .val (.int qq), .val (.ref (n0 + 0)), .unset, .unset, .unset] [])) (fun _ k => XS.ifYes A41.here hx rfl (pc0 := 157) (pc' := 166) rfl (own_db hby at_157) rfl ((if0 _ _).trans (teq hc125).1) (by decide) (by decide) k) ?_
                                exact J42 _ (D) (S) (H) (Q) (R) (rc) (sz) (A41) hD iv (by rw [r0]) (by rw [r1]) (by rw [r2])
                              · refine own_by (u' := T40.setTop (mkF m 160 #[.val (.int x1), .val (.int x2), .val (.long x3), .second, .val (.long x4), .second, .val (.long x5), .second, .val (.int o0), .val (.int o1), .val (.int o2), .val (.int se), .val (.int cl), .val (.int ag), .val (.int qq), .val (.ref (n0 + 0)), .unset, .unset, .unset] [])) (fun _ k => XS.ifNo A41.here hx rfl (own_db hby at_157) rfl ((if0 _ _).trans (feq hc125).1) k) ?_
                                refine own_by (u' := T40.setTop (mkF m 162 #[.val (.int x1), .val (.int x2), .val (.long x3), .second, .val (.long x4), .second, .val (.long x5), .second, .val (.int o0), .val (.int o1), .val (.int o2), .val (.int se), .val (.int cl), .val (.int ag), .val (.int qq), .val (.ref (n0 + 0)), .unset, .unset, .unset] [(.ref (n0 + 0))])) (fun _ k => XS.aload A41.here hx rfl (own_db hby at_160) rfl rfl k) ?_
                                refine own_callV (y := (⟨"com/example/strandwise/strandwise/network/SearchState", "settleNext", "()I"⟩ : MethodName)) (rest := []) A41 hx hZ hown (hw _ (List.mem_of_getElem? (i := 65) rfl)) (hw _ (List.mem_of_getElem? (i := 66) rfl)) (hw _ (List.mem_of_getElem? (i := 68) rfl)) (hw _ (List.mem_of_getElem? (i := 67) rfl)) (hw _ (List.mem_of_getElem? (i := 3) rfl)) (hw _ (List.mem_of_getElem? (i := 69) rfl)) (by decide) (i := 0) rfl (gT l Z a0 hw n0 D S H Q R rc sz (fun x => own_g S x ≠ 0) hD iv.1 iv.2.2.2.1 (own_hs iv hz own_vt2 (by rw [r2]; exact hc125))) (by rw [hml]; rfl) [] rfl rfl pd___I rfl (W := 0) (by show 2 * 0 + _ ≤ _; exact Nat.le_of_eq rfl) (own_db hby at_162) (by decide) (by decide) (by decide) (by decide) ?_
                                intro v129 i130 T132 hq131 A133
                                obtain ⟨rfl, H126, Q127, ok128, rfl⟩ := hq131
                                replace A133 : own_at p l e _ s m _ below meth c n0 T132 7 24 [(own_obj Z "com/example/strandwise/strandwise/network/SearchState" ns_SearchState [(.ref (n0 + 1)), (.ref (n0 + 2)), (.ref (n0 + 3)), (.ref (n0 + 6)), (.int rc)]), (own_la Z D), (own_ia Z .byte (S.set (own_g H (0 : Int32)).toNatClampNeg (2 : Int32))), (own_obj Z "com/example/strandwise/strandwise/network/VertexHeap" ns_VertexHeap [(.ref (n0 + 1)), (.ref (n0 + 4)), (.ref (n0 + 5)), (.int (sz - (1 : Int32)))]), (own_ia Z .int H126), (own_ia Z .int Q127), (own_ia Z .int R)] := A133
                                show own_go _ _ _ _ _ _ _ (T132.setTop (mkF m 165 #[.val (.int x1), .val (.int x2), .val (.long x3), .second, .val (.long x4), .second, .val (.long x5), .second, .val (.int o0), .val (.int o1), .val (.int o2), .val (.int se), .val (.int cl), .val (.int ag), .val (.int qq), .val (.ref (n0 + 0)), .unset, .unset, .unset] [(.int (own_g H (0 : Int32)))]))
                                refine own_by (u' := T132.setTop (mkF m 166 #[.val (.int x1), .val (.int x2), .val (.long x3), .second, .val (.long x4), .second, .val (.long x5), .second, .val (.int o0), .val (.int o1), .val (.int o2), .val (.int se), .val (.int cl), .val (.int ag), .val (.int qq), .val (.ref (n0 + 0)), .unset, .unset, .unset] [])) (fun _ k => XS.pop A133.here hx rfl (own_db hby at_165) rfl rfl k) ?_
                                exact J42 _ (D) ((S.set (own_g H (0 : Int32)).toNatClampNeg (2 : Int32))) (H126) (Q127) (R) (rc) ((sz - (1 : Int32))) (A133) hD (own_ivT iv (own_hs iv hz own_vt2 (by rw [r2]; exact hc125)) (own_okv iv.2.2.2.1 own_vt0) (own_ivp iv (own_hs iv hz own_vt2 (by rw [r2]; exact hc125))) ok128) ((own_nz2 iv.1 (own_okv iv.2.2.2.1 own_vt0) (own_ivp iv (own_hs iv hz own_vt2 (by rw [r2]; exact hc125))) own_vt0).trans (by rw [r0])) ((own_nz2 iv.1 (own_okv iv.2.2.2.1 own_vt0) (own_ivp iv (own_hs iv hz own_vt2 (by rw [r2]; exact hc125))) own_vt1).trans (by rw [r1])) ((own_nz2 iv.1 (own_okv iv.2.2.2.1 own_vt0) (own_ivp iv (own_hs iv hz own_vt2 (by rw [r2]; exact hc125))) own_vt2).trans (by rw [r2]))
                            · refine own_by (u' := T40.setTop (mkF m 160 #[.val (.int x1), .val (.int x2), .val (.long x3), .second, .val (.long x4), .second, .val (.long x5), .second, .val (.int o0), .val (.int o1), .val (.int o2), .val (.int se), .val (.int cl), .val (.int ag), .val (.int qq), .val (.ref (n0 + 0)), .unset, .unset, .unset] [])) (fun _ k => XS.ifYes A41.here hx rfl (pc0 := 152) (pc' := 160) rfl (own_db hby at_152) rfl ((if0 _ _).trans (feq hc124).2) (by decide) (by decide) k) ?_
                              refine own_by (u' := T40.setTop (mkF m 162 #[.val (.int x1), .val (.int x2), .val (.long x3), .second, .val (.long x4), .second, .val (.long x5), .second, .val (.int o0), .val (.int o1), .val (.int o2), .val (.int se), .val (.int cl), .val (.int ag), .val (.int qq), .val (.ref (n0 + 0)), .unset, .unset, .unset] [(.ref (n0 + 0))])) (fun _ k => XS.aload A41.here hx rfl (own_db hby at_160) rfl rfl k) ?_
                              refine own_callV (y := (⟨"com/example/strandwise/strandwise/network/SearchState", "settleNext", "()I"⟩ : MethodName)) (rest := []) A41 hx hZ hown (hw _ (List.mem_of_getElem? (i := 65) rfl)) (hw _ (List.mem_of_getElem? (i := 66) rfl)) (hw _ (List.mem_of_getElem? (i := 68) rfl)) (hw _ (List.mem_of_getElem? (i := 67) rfl)) (hw _ (List.mem_of_getElem? (i := 3) rfl)) (hw _ (List.mem_of_getElem? (i := 69) rfl)) (by decide) (i := 0) rfl (gT l Z a0 hw n0 D S H Q R rc sz (fun x => own_g S x ≠ 0) hD iv.1 iv.2.2.2.1 (own_hs iv hz own_vt1 (by rw [r1]; exact hc124))) (by rw [hml]; rfl) [] rfl rfl pd___I rfl (W := 0) (by show 2 * 0 + _ ≤ _; exact Nat.le_of_eq rfl) (own_db hby at_162) (by decide) (by decide) (by decide) (by decide) ?_
                              intro v137 i138 T140 hq139 A141
                              obtain ⟨rfl, H134, Q135, ok136, rfl⟩ := hq139
                              replace A141 : own_at p l e _ s m _ below meth c n0 T140 7 24 [(own_obj Z "com/example/strandwise/strandwise/network/SearchState" ns_SearchState [(.ref (n0 + 1)), (.ref (n0 + 2)), (.ref (n0 + 3)), (.ref (n0 + 6)), (.int rc)]), (own_la Z D), (own_ia Z .byte (S.set (own_g H (0 : Int32)).toNatClampNeg (2 : Int32))), (own_obj Z "com/example/strandwise/strandwise/network/VertexHeap" ns_VertexHeap [(.ref (n0 + 1)), (.ref (n0 + 4)), (.ref (n0 + 5)), (.int (sz - (1 : Int32)))]), (own_ia Z .int H134), (own_ia Z .int Q135), (own_ia Z .int R)] := A141
                              show own_go _ _ _ _ _ _ _ (T140.setTop (mkF m 165 #[.val (.int x1), .val (.int x2), .val (.long x3), .second, .val (.long x4), .second, .val (.long x5), .second, .val (.int o0), .val (.int o1), .val (.int o2), .val (.int se), .val (.int cl), .val (.int ag), .val (.int qq), .val (.ref (n0 + 0)), .unset, .unset, .unset] [(.int (own_g H (0 : Int32)))]))
                              refine own_by (u' := T140.setTop (mkF m 166 #[.val (.int x1), .val (.int x2), .val (.long x3), .second, .val (.long x4), .second, .val (.long x5), .second, .val (.int o0), .val (.int o1), .val (.int o2), .val (.int se), .val (.int cl), .val (.int ag), .val (.int qq), .val (.ref (n0 + 0)), .unset, .unset, .unset] [])) (fun _ k => XS.pop A141.here hx rfl (own_db hby at_165) rfl rfl k) ?_
                              exact J42 _ (D) ((S.set (own_g H (0 : Int32)).toNatClampNeg (2 : Int32))) (H134) (Q135) (R) (rc) ((sz - (1 : Int32))) (A141) hD (own_ivT iv (own_hs iv hz own_vt1 (by rw [r1]; exact hc124)) (own_okv iv.2.2.2.1 own_vt0) (own_ivp iv (own_hs iv hz own_vt1 (by rw [r1]; exact hc124))) ok136) ((own_nz2 iv.1 (own_okv iv.2.2.2.1 own_vt0) (own_ivp iv (own_hs iv hz own_vt1 (by rw [r1]; exact hc124))) own_vt0).trans (by rw [r0])) ((own_nz2 iv.1 (own_okv iv.2.2.2.1 own_vt0) (own_ivp iv (own_hs iv hz own_vt1 (by rw [r1]; exact hc124))) own_vt1).trans (by rw [r1])) ((own_nz2 iv.1 (own_okv iv.2.2.2.1 own_vt0) (own_ivp iv (own_hs iv hz own_vt1 (by rw [r1]; exact hc124))) own_vt2).trans (by rw [r2]))
                          · refine own_by (u' := T40.setTop (mkF m 160 #[.val (.int x1), .val (.int x2), .val (.long x3), .second, .val (.long x4), .second, .val (.long x5), .second, .val (.int o0), .val (.int o1), .val (.int o2), .val (.int se), .val (.int cl), .val (.int ag), .val (.int qq), .val (.ref (n0 + 0)), .unset, .unset, .unset] [])) (fun _ k => XS.ifYes A41.here hx rfl (pc0 := 147) (pc' := 160) rfl (own_db hby at_147) rfl ((if0 _ _).trans (feq hc123).2) (by decide) (by decide) k) ?_
                            refine own_by (u' := T40.setTop (mkF m 162 #[.val (.int x1), .val (.int x2), .val (.long x3), .second, .val (.long x4), .second, .val (.long x5), .second, .val (.int o0), .val (.int o1), .val (.int o2), .val (.int se), .val (.int cl), .val (.int ag), .val (.int qq), .val (.ref (n0 + 0)), .unset, .unset, .unset] [(.ref (n0 + 0))])) (fun _ k => XS.aload A41.here hx rfl (own_db hby at_160) rfl rfl k) ?_
                            refine own_callV (y := (⟨"com/example/strandwise/strandwise/network/SearchState", "settleNext", "()I"⟩ : MethodName)) (rest := []) A41 hx hZ hown (hw _ (List.mem_of_getElem? (i := 65) rfl)) (hw _ (List.mem_of_getElem? (i := 66) rfl)) (hw _ (List.mem_of_getElem? (i := 68) rfl)) (hw _ (List.mem_of_getElem? (i := 67) rfl)) (hw _ (List.mem_of_getElem? (i := 3) rfl)) (hw _ (List.mem_of_getElem? (i := 69) rfl)) (by decide) (i := 0) rfl (gT l Z a0 hw n0 D S H Q R rc sz (fun x => own_g S x ≠ 0) hD iv.1 iv.2.2.2.1 (own_hs iv hz own_vt0 (by rw [r0]; exact hc123))) (by rw [hml]; rfl) [] rfl rfl pd___I rfl (W := 0) (by show 2 * 0 + _ ≤ _; exact Nat.le_of_eq rfl) (own_db hby at_162) (by decide) (by decide) (by decide) (by decide) ?_
                            intro v145 i146 T148 hq147 A149
                            obtain ⟨rfl, H142, Q143, ok144, rfl⟩ := hq147
                            replace A149 : own_at p l e _ s m _ below meth c n0 T148 7 24 [(own_obj Z "com/example/strandwise/strandwise/network/SearchState" ns_SearchState [(.ref (n0 + 1)), (.ref (n0 + 2)), (.ref (n0 + 3)), (.ref (n0 + 6)), (.int rc)]), (own_la Z D), (own_ia Z .byte (S.set (own_g H (0 : Int32)).toNatClampNeg (2 : Int32))), (own_obj Z "com/example/strandwise/strandwise/network/VertexHeap" ns_VertexHeap [(.ref (n0 + 1)), (.ref (n0 + 4)), (.ref (n0 + 5)), (.int (sz - (1 : Int32)))]), (own_ia Z .int H142), (own_ia Z .int Q143), (own_ia Z .int R)] := A149
                            show own_go _ _ _ _ _ _ _ (T148.setTop (mkF m 165 #[.val (.int x1), .val (.int x2), .val (.long x3), .second, .val (.long x4), .second, .val (.long x5), .second, .val (.int o0), .val (.int o1), .val (.int o2), .val (.int se), .val (.int cl), .val (.int ag), .val (.int qq), .val (.ref (n0 + 0)), .unset, .unset, .unset] [(.int (own_g H (0 : Int32)))]))
                            refine own_by (u' := T148.setTop (mkF m 166 #[.val (.int x1), .val (.int x2), .val (.long x3), .second, .val (.long x4), .second, .val (.long x5), .second, .val (.int o0), .val (.int o1), .val (.int o2), .val (.int se), .val (.int cl), .val (.int ag), .val (.int qq), .val (.ref (n0 + 0)), .unset, .unset, .unset] [])) (fun _ k => XS.pop A149.here hx rfl (own_db hby at_165) rfl rfl k) ?_
                            exact J42 _ (D) ((S.set (own_g H (0 : Int32)).toNatClampNeg (2 : Int32))) (H142) (Q143) (R) (rc) ((sz - (1 : Int32))) (A149) hD (own_ivT iv (own_hs iv hz own_vt0 (by rw [r0]; exact hc123)) (own_okv iv.2.2.2.1 own_vt0) (own_ivp iv (own_hs iv hz own_vt0 (by rw [r0]; exact hc123))) ok144) ((own_nz2 iv.1 (own_okv iv.2.2.2.1 own_vt0) (own_ivp iv (own_hs iv hz own_vt0 (by rw [r0]; exact hc123))) own_vt0).trans (by rw [r0])) ((own_nz2 iv.1 (own_okv iv.2.2.2.1 own_vt0) (own_ivp iv (own_hs iv hz own_vt0 (by rw [r0]; exact hc123))) own_vt1).trans (by rw [r1])) ((own_nz2 iv.1 (own_okv iv.2.2.2.1 own_vt0) (own_ivp iv (own_hs iv hz own_vt0 (by rw [r0]; exact hc123))) own_vt2).trans (by rw [r2]))
                      by_cases hc150 : o2 = (0 : Int32)
                      · refine own_by (u' := T37.setTop (mkF m 140 #[.val (.int x1), .val (.int x2), .val (.long x3), .second, .val (.long x4), .second, .val (.long x5), .second, .val (.int o0), .val (.int o1), .val (.int o2), .val (.int se), .val (.int cl), .val (.int ag), .val (.int qq), .val (.ref (n0 + 0)), .unset, .unset, .unset] [])) (fun _ k => XS.ifYes A38.here hx rfl (pc0 := 128) (pc' := 140) rfl (own_db hby at_128) rfl ((if0 _ _).trans (teq hc150).1) (by decide) (by decide) k) ?_
                        exact J39 _ (D) (S) (H) (Q) (R) (rc) (sz) (A38) hD iv hz r0 r1 (r2.trans hc150.symm)
                      · refine own_by (u' := T37.setTop (mkF m 131 #[.val (.int x1), .val (.int x2), .val (.long x3), .second, .val (.long x4), .second, .val (.long x5), .second, .val (.int o0), .val (.int o1), .val (.int o2), .val (.int se), .val (.int cl), .val (.int ag), .val (.int qq), .val (.ref (n0 + 0)), .unset, .unset, .unset] [])) (fun _ k => XS.ifNo A38.here hx rfl (own_db hby at_128) rfl ((if0 _ _).trans (feq hc150).1) k) ?_
                        refine own_by (u' := T37.setTop (mkF m 133 #[.val (.int x1), .val (.int x2), .val (.long x3), .second, .val (.long x4), .second, .val (.long x5), .second, .val (.int o0), .val (.int o1), .val (.int o2), .val (.int se), .val (.int cl), .val (.int ag), .val (.int qq), .val (.ref (n0 + 0)), .unset, .unset, .unset] [(.ref (n0 + 0))])) (fun _ k => XS.aload A38.here hx rfl (own_db hby at_131) rfl rfl k) ?_
                        refine own_by (u' := T37.setTop (mkF m 134 #[.val (.int x1), .val (.int x2), .val (.long x3), .second, .val (.long x4), .second, .val (.long x5), .second, .val (.int o0), .val (.int o1), .val (.int o2), .val (.int se), .val (.int cl), .val (.int ag), .val (.int qq), .val (.ref (n0 + 0)), .unset, .unset, .unset] [(.int (2 : Int32)), (.ref (n0 + 0))])) (fun _ k => XS.iconst A38.here hx rfl (own_db hby at_133) k) ?_
                        refine own_by (u' := T37.setTop (mkF m 136 #[.val (.int x1), .val (.int x2), .val (.long x3), .second, .val (.long x4), .second, .val (.long x5), .second, .val (.int o0), .val (.int o1), .val (.int o2), .val (.int se), .val (.int cl), .val (.int ag), .val (.int qq), .val (.ref (n0 + 0)), .unset, .unset, .unset] [(.long x5), (.int (2 : Int32)), (.ref (n0 + 0))])) (fun _ k => XS.lload A38.here hx rfl (own_db hby at_134) rfl k) ?_
                        refine own_callV (y := (⟨"com/example/strandwise/strandwise/network/SearchState", "offer", "(IJ)Z"⟩ : MethodName)) (rest := []) A38 hx hZ hown (hw _ (List.mem_of_getElem? (i := 39) rfl)) (hw _ (List.mem_of_getElem? (i := 40) rfl)) (hw _ (List.mem_of_getElem? (i := 42) rfl)) (hw _ (List.mem_of_getElem? (i := 41) rfl)) (hw _ (List.mem_of_getElem? (i := 3) rfl)) (hw _ (List.mem_of_getElem? (i := 43) rfl)) (by decide) (i := 0) rfl (gO l Z a0 hw n0 D S H Q R rc sz (2 : Int32) x5 (fun x => own_g S x ≠ 0) (fun x => own_g (S.set (2 : Int32).toNatClampNeg 1) x ≠ 0) hD iv.1 iv.2.1 own_vt2 iv.2.2.2.1 (own_ivh iv own_vt2)) (by rw [hml]; rfl) [(.int (2 : Int32)), (.long x5)] rfl rfl pd__IJ_Z rfl (W := 0) (by show 2 * 0 + _ ≤ _; exact Nat.le_of_eq rfl) (own_db hby at_136) (by decide) (by decide) (by decide) (by decide) ?_
                        intro v157 i158 T160 hq159 A161
                        obtain ⟨⟨z155, rfl⟩, hA, -⟩ := hq159
                        obtain ⟨D151, H152, Q153, hD156, ok154, rfl⟩ := hA r2
                        replace A161 : own_at p l e _ s m _ below meth c n0 T160 7 24 [(own_obj Z "com/example/strandwise/strandwise/network/SearchState" ns_SearchState [(.ref (n0 + 1)), (.ref (n0 + 2)), (.ref (n0 + 3)), (.ref (n0 + 6)), (.int (rc + (1 : Int32)))]), (own_la Z D151), (own_ia Z .byte (S.set (2 : Int32).toNatClampNeg (1 : Int32))), (own_obj Z "com/example/strandwise/strandwise/network/VertexHeap" ns_VertexHeap [(.ref (n0 + 1)), (.ref (n0 + 4)), (.ref (n0 + 5)), (.int (sz + (1 : Int32)))]), (own_ia Z .int H152), (own_ia Z .int Q153), (own_ia Z .int (R.set rc.toNatClampNeg (2 : Int32)))] := A161
                        show own_go _ _ _ _ _ _ _ (T160.setTop (mkF m 139 #[.val (.int x1), .val (.int x2), .val (.long x3), .second, .val (.long x4), .second, .val (.long x5), .second, .val (.int o0), .val (.int o1), .val (.int o2), .val (.int se), .val (.int cl), .val (.int ag), .val (.int qq), .val (.ref (n0 + 0)), .unset, .unset, .unset] [(.int z155)]))
                        refine own_by (u' := T160.setTop (mkF m 140 #[.val (.int x1), .val (.int x2), .val (.long x3), .second, .val (.long x4), .second, .val (.long x5), .second, .val (.int o0), .val (.int o1), .val (.int o2), .val (.int se), .val (.int cl), .val (.int ag), .val (.int qq), .val (.ref (n0 + 0)), .unset, .unset, .unset] [])) (fun _ k => XS.pop A161.here hx rfl (own_db hby at_139) rfl rfl k) ?_
                        exact J39 _ (D151) ((S.set (2 : Int32).toNatClampNeg (1 : Int32))) (H152) (Q153) ((R.set rc.toNatClampNeg (2 : Int32))) ((rc + (1 : Int32))) ((sz + (1 : Int32))) (A161) hD156 (own_ivO iv own_vt2 r2 ok154) (own_ivz iv own_vt2 r2 hz) (own_os iv.1 own_vt2 own_vt0 (by decide) r0) (own_os iv.1 own_vt2 own_vt1 (by decide) r1) (own_ot iv.1 own_vt2 ho2 hc150)
                    by_cases hc162 : o1 = (0 : Int32)
                    · refine own_by (u' := T34.setTop (mkF m 126 #[.val (.int x1), .val (.int x2), .val (.long x3), .second, .val (.long x4), .second, .val (.long x5), .second, .val (.int o0), .val (.int o1), .val (.int o2), .val (.int se), .val (.int cl), .val (.int ag), .val (.int qq), .val (.ref (n0 + 0)), .unset, .unset, .unset] [])) (fun _ k => XS.ifYes A35.here hx rfl (pc0 := 114) (pc' := 126) rfl (own_db hby at_114) rfl ((if0 _ _).trans (teq hc162).1) (by decide) (by decide) k) ?_
                      exact J36 _ (D) (S) (H) (Q) (R) (rc) (sz) (A35) hD iv hz r0 (r1.trans hc162.symm) r2
                    · refine own_by (u' := T34.setTop (mkF m 117 #[.val (.int x1), .val (.int x2), .val (.long x3), .second, .val (.long x4), .second, .val (.long x5), .second, .val (.int o0), .val (.int o1), .val (.int o2), .val (.int se), .val (.int cl), .val (.int ag), .val (.int qq), .val (.ref (n0 + 0)), .unset, .unset, .unset] [])) (fun _ k => XS.ifNo A35.here hx rfl (own_db hby at_114) rfl ((if0 _ _).trans (feq hc162).1) k) ?_
                      refine own_by (u' := T34.setTop (mkF m 119 #[.val (.int x1), .val (.int x2), .val (.long x3), .second, .val (.long x4), .second, .val (.long x5), .second, .val (.int o0), .val (.int o1), .val (.int o2), .val (.int se), .val (.int cl), .val (.int ag), .val (.int qq), .val (.ref (n0 + 0)), .unset, .unset, .unset] [(.ref (n0 + 0))])) (fun _ k => XS.aload A35.here hx rfl (own_db hby at_117) rfl rfl k) ?_
                      refine own_by (u' := T34.setTop (mkF m 120 #[.val (.int x1), .val (.int x2), .val (.long x3), .second, .val (.long x4), .second, .val (.long x5), .second, .val (.int o0), .val (.int o1), .val (.int o2), .val (.int se), .val (.int cl), .val (.int ag), .val (.int qq), .val (.ref (n0 + 0)), .unset, .unset, .unset] [(.int (1 : Int32)), (.ref (n0 + 0))])) (fun _ k => XS.iconst A35.here hx rfl (own_db hby at_119) k) ?_
                      refine own_by (u' := T34.setTop (mkF m 122 #[.val (.int x1), .val (.int x2), .val (.long x3), .second, .val (.long x4), .second, .val (.long x5), .second, .val (.int o0), .val (.int o1), .val (.int o2), .val (.int se), .val (.int cl), .val (.int ag), .val (.int qq), .val (.ref (n0 + 0)), .unset, .unset, .unset] [(.long x4), (.int (1 : Int32)), (.ref (n0 + 0))])) (fun _ k => XS.lload A35.here hx rfl (own_db hby at_120) rfl k) ?_
                      refine own_callV (y := (⟨"com/example/strandwise/strandwise/network/SearchState", "offer", "(IJ)Z"⟩ : MethodName)) (rest := []) A35 hx hZ hown (hw _ (List.mem_of_getElem? (i := 39) rfl)) (hw _ (List.mem_of_getElem? (i := 40) rfl)) (hw _ (List.mem_of_getElem? (i := 42) rfl)) (hw _ (List.mem_of_getElem? (i := 41) rfl)) (hw _ (List.mem_of_getElem? (i := 3) rfl)) (hw _ (List.mem_of_getElem? (i := 43) rfl)) (by decide) (i := 0) rfl (gO l Z a0 hw n0 D S H Q R rc sz (1 : Int32) x4 (fun x => own_g S x ≠ 0) (fun x => own_g (S.set (1 : Int32).toNatClampNeg 1) x ≠ 0) hD iv.1 iv.2.1 own_vt1 iv.2.2.2.1 (own_ivh iv own_vt1)) (by rw [hml]; rfl) [(.int (1 : Int32)), (.long x4)] rfl rfl pd__IJ_Z rfl (W := 0) (by show 2 * 0 + _ ≤ _; exact Nat.le_of_eq rfl) (own_db hby at_122) (by decide) (by decide) (by decide) (by decide) ?_
                      intro v169 i170 T172 hq171 A173
                      obtain ⟨⟨z167, rfl⟩, hA, -⟩ := hq171
                      obtain ⟨D163, H164, Q165, hD168, ok166, rfl⟩ := hA r1
                      replace A173 : own_at p l e _ s m _ below meth c n0 T172 7 24 [(own_obj Z "com/example/strandwise/strandwise/network/SearchState" ns_SearchState [(.ref (n0 + 1)), (.ref (n0 + 2)), (.ref (n0 + 3)), (.ref (n0 + 6)), (.int (rc + (1 : Int32)))]), (own_la Z D163), (own_ia Z .byte (S.set (1 : Int32).toNatClampNeg (1 : Int32))), (own_obj Z "com/example/strandwise/strandwise/network/VertexHeap" ns_VertexHeap [(.ref (n0 + 1)), (.ref (n0 + 4)), (.ref (n0 + 5)), (.int (sz + (1 : Int32)))]), (own_ia Z .int H164), (own_ia Z .int Q165), (own_ia Z .int (R.set rc.toNatClampNeg (1 : Int32)))] := A173
                      show own_go _ _ _ _ _ _ _ (T172.setTop (mkF m 125 #[.val (.int x1), .val (.int x2), .val (.long x3), .second, .val (.long x4), .second, .val (.long x5), .second, .val (.int o0), .val (.int o1), .val (.int o2), .val (.int se), .val (.int cl), .val (.int ag), .val (.int qq), .val (.ref (n0 + 0)), .unset, .unset, .unset] [(.int z167)]))
                      refine own_by (u' := T172.setTop (mkF m 126 #[.val (.int x1), .val (.int x2), .val (.long x3), .second, .val (.long x4), .second, .val (.long x5), .second, .val (.int o0), .val (.int o1), .val (.int o2), .val (.int se), .val (.int cl), .val (.int ag), .val (.int qq), .val (.ref (n0 + 0)), .unset, .unset, .unset] [])) (fun _ k => XS.pop A173.here hx rfl (own_db hby at_125) rfl rfl k) ?_
                      exact J36 _ (D163) ((S.set (1 : Int32).toNatClampNeg (1 : Int32))) (H164) (Q165) ((R.set rc.toNatClampNeg (1 : Int32))) ((rc + (1 : Int32))) ((sz + (1 : Int32))) (A173) hD168 (own_ivO iv own_vt1 r1 ok166) (own_ivz iv own_vt1 r1 hz) (own_os iv.1 own_vt1 own_vt0 (by decide) r0) (own_ot iv.1 own_vt1 ho1 hc162) (own_os iv.1 own_vt1 own_vt2 (by decide) r2)
                  by_cases hc174 : o0 = (0 : Int32)
                  · refine own_by (u' := T31.setTop (mkF m 112 #[.val (.int x1), .val (.int x2), .val (.long x3), .second, .val (.long x4), .second, .val (.long x5), .second, .val (.int o0), .val (.int o1), .val (.int o2), .val (.int se), .val (.int cl), .val (.int ag), .val (.int qq), .val (.ref (n0 + 0)), .unset, .unset, .unset] [])) (fun _ k => XS.ifYes A32.here hx rfl (pc0 := 101) (pc' := 112) rfl (own_db hby at_101) rfl ((if0 _ _).trans (teq hc174).1) (by decide) (by decide) k) ?_
                    exact J33 _ (D) (S) (H) (Q) (R) (rc) (sz) (A32) hD iv hz (r0.trans hc174.symm) r1 r2
                  · refine own_by (u' := T31.setTop (mkF m 104 #[.val (.int x1), .val (.int x2), .val (.long x3), .second, .val (.long x4), .second, .val (.long x5), .second, .val (.int o0), .val (.int o1), .val (.int o2), .val (.int se), .val (.int cl), .val (.int ag), .val (.int qq), .val (.ref (n0 + 0)), .unset, .unset, .unset] [])) (fun _ k => XS.ifNo A32.here hx rfl (own_db hby at_101) rfl ((if0 _ _).trans (feq hc174).1) k) ?_
                    refine own_by (u' := T31.setTop (mkF m 106 #[.val (.int x1), .val (.int x2), .val (.long x3), .second, .val (.long x4), .second, .val (.long x5), .second, .val (.int o0), .val (.int o1), .val (.int o2), .val (.int se), .val (.int cl), .val (.int ag), .val (.int qq), .val (.ref (n0 + 0)), .unset, .unset, .unset] [(.ref (n0 + 0))])) (fun _ k => XS.aload A32.here hx rfl (own_db hby at_104) rfl rfl k) ?_
                    refine own_by (u' := T31.setTop (mkF m 107 #[.val (.int x1), .val (.int x2), .val (.long x3), .second, .val (.long x4), .second, .val (.long x5), .second, .val (.int o0), .val (.int o1), .val (.int o2), .val (.int se), .val (.int cl), .val (.int ag), .val (.int qq), .val (.ref (n0 + 0)), .unset, .unset, .unset] [(.int (0 : Int32)), (.ref (n0 + 0))])) (fun _ k => XS.iconst A32.here hx rfl (own_db hby at_106) k) ?_
                    refine own_by (u' := T31.setTop (mkF m 108 #[.val (.int x1), .val (.int x2), .val (.long x3), .second, .val (.long x4), .second, .val (.long x5), .second, .val (.int o0), .val (.int o1), .val (.int o2), .val (.int se), .val (.int cl), .val (.int ag), .val (.int qq), .val (.ref (n0 + 0)), .unset, .unset, .unset] [(.long x3), (.int (0 : Int32)), (.ref (n0 + 0))])) (fun _ k => XS.lloadN A32.here hx rfl (own_db hby at_107) rfl k) ?_
                    refine own_callV (y := (⟨"com/example/strandwise/strandwise/network/SearchState", "offer", "(IJ)Z"⟩ : MethodName)) (rest := []) A32 hx hZ hown (hw _ (List.mem_of_getElem? (i := 39) rfl)) (hw _ (List.mem_of_getElem? (i := 40) rfl)) (hw _ (List.mem_of_getElem? (i := 42) rfl)) (hw _ (List.mem_of_getElem? (i := 41) rfl)) (hw _ (List.mem_of_getElem? (i := 3) rfl)) (hw _ (List.mem_of_getElem? (i := 43) rfl)) (by decide) (i := 0) rfl (gO l Z a0 hw n0 D S H Q R rc sz (0 : Int32) x3 (fun x => own_g S x ≠ 0) (fun x => own_g (S.set (0 : Int32).toNatClampNeg 1) x ≠ 0) hD iv.1 iv.2.1 own_vt0 iv.2.2.2.1 (own_ivh iv own_vt0)) (by rw [hml]; rfl) [(.int (0 : Int32)), (.long x3)] rfl rfl pd__IJ_Z rfl (W := 0) (by show 2 * 0 + _ ≤ _; exact Nat.le_of_eq rfl) (own_db hby at_108) (by decide) (by decide) (by decide) (by decide) ?_
                    intro v181 i182 T184 hq183 A185
                    obtain ⟨⟨z179, rfl⟩, hA, -⟩ := hq183
                    obtain ⟨D175, H176, Q177, hD180, ok178, rfl⟩ := hA r0
                    replace A185 : own_at p l e _ s m _ below meth c n0 T184 7 24 [(own_obj Z "com/example/strandwise/strandwise/network/SearchState" ns_SearchState [(.ref (n0 + 1)), (.ref (n0 + 2)), (.ref (n0 + 3)), (.ref (n0 + 6)), (.int (rc + (1 : Int32)))]), (own_la Z D175), (own_ia Z .byte (S.set (0 : Int32).toNatClampNeg (1 : Int32))), (own_obj Z "com/example/strandwise/strandwise/network/VertexHeap" ns_VertexHeap [(.ref (n0 + 1)), (.ref (n0 + 4)), (.ref (n0 + 5)), (.int (sz + (1 : Int32)))]), (own_ia Z .int H176), (own_ia Z .int Q177), (own_ia Z .int (R.set rc.toNatClampNeg (0 : Int32)))] := A185
                    show own_go _ _ _ _ _ _ _ (T184.setTop (mkF m 111 #[.val (.int x1), .val (.int x2), .val (.long x3), .second, .val (.long x4), .second, .val (.long x5), .second, .val (.int o0), .val (.int o1), .val (.int o2), .val (.int se), .val (.int cl), .val (.int ag), .val (.int qq), .val (.ref (n0 + 0)), .unset, .unset, .unset] [(.int z179)]))
                    refine own_by (u' := T184.setTop (mkF m 112 #[.val (.int x1), .val (.int x2), .val (.long x3), .second, .val (.long x4), .second, .val (.long x5), .second, .val (.int o0), .val (.int o1), .val (.int o2), .val (.int se), .val (.int cl), .val (.int ag), .val (.int qq), .val (.ref (n0 + 0)), .unset, .unset, .unset] [])) (fun _ k => XS.pop A185.here hx rfl (own_db hby at_111) rfl rfl k) ?_
                    exact J33 _ (D175) ((S.set (0 : Int32).toNatClampNeg (1 : Int32))) (H176) (Q177) ((R.set rc.toNatClampNeg (0 : Int32))) ((rc + (1 : Int32))) ((sz + (1 : Int32))) (A185) hD180 (own_ivO iv own_vt0 r0 ok178) (own_ivz iv own_vt0 r0 hz) (own_ot iv.1 own_vt0 ho0 hc174) (own_os iv.1 own_vt0 own_vt1 (by decide) r1) (own_os iv.1 own_vt0 own_vt2 (by decide) r2)
                exact J30 _ ([(0 : Int64), (0 : Int64), (0 : Int64)]) ([(0 : Int32), (0 : Int32), (0 : Int32)]) ([(0 : Int32), (0 : Int32), (0 : Int32)]) ([(0 : Int32), (0 : Int32), (0 : Int32)]) ([(0 : Int32), (0 : Int32), (0 : Int32)]) ((0 : Int32)) ((0 : Int32)) (A28) rfl own_ivi (by decide) rfl rfl rfl
              exact J19 _ ((x2 &&& (2147483647 : Int32)) % (3 : Int32)) (A18) (own_rem _ 3 3 rfl (by omega))
            by_cases hc186 : (x1 &&& (32 : Int32)) = (0 : Int32)
            · refine own_by (u' := T14.setTop (mkF m 78 #[.val (.int x1), .val (.int x2), .val (.long x3), .second, .val (.long x4), .second, .val (.long x5), .second, .val (.int o0), .val (.int o1), .val (.int o2), .val (.int se), .val (.int cl), .unset, .unset, .unset, .unset, .unset, .unset] [])) (fun _ k => XS.ifYes A15.here hx rfl (pc0 := 71) (pc' := 78) rfl (own_db hby at_71) rfl ((if0 _ _).trans (teq hc186).1) (by decide) (by decide) k) ?_
              refine own_by (u' := T14.setTop (mkF m 79 #[.val (.int x1), .val (.int x2), .val (.long x3), .second, .val (.long x4), .second, .val (.long x5), .second, .val (.int o0), .val (.int o1), .val (.int o2), .val (.int se), .val (.int cl), .unset, .unset, .unset, .unset, .unset, .unset] [(.int (0 : Int32))])) (fun _ k => XS.iconst A15.here hx rfl (own_db hby at_78) k) ?_
              exact J16 _ (0 : Int32) (A15) (Or.inl rfl)
            · refine own_by (u' := T14.setTop (mkF m 74 #[.val (.int x1), .val (.int x2), .val (.long x3), .second, .val (.long x4), .second, .val (.long x5), .second, .val (.int o0), .val (.int o1), .val (.int o2), .val (.int se), .val (.int cl), .unset, .unset, .unset, .unset, .unset, .unset] [])) (fun _ k => XS.ifNo A15.here hx rfl (own_db hby at_71) rfl ((if0 _ _).trans (feq hc186).1) k) ?_
              refine own_by (u' := T14.setTop (mkF m 75 #[.val (.int x1), .val (.int x2), .val (.long x3), .second, .val (.long x4), .second, .val (.long x5), .second, .val (.int o0), .val (.int o1), .val (.int o2), .val (.int se), .val (.int cl), .unset, .unset, .unset, .unset, .unset, .unset] [(.int (1 : Int32))])) (fun _ k => XS.iconst A15.here hx rfl (own_db hby at_74) k) ?_
              refine own_by (u' := T14.setTop (mkF m 79 #[.val (.int x1), .val (.int x2), .val (.long x3), .second, .val (.long x4), .second, .val (.long x5), .second, .val (.int o0), .val (.int o1), .val (.int o2), .val (.int se), .val (.int cl), .unset, .unset, .unset, .unset, .unset, .unset] [(.int (1 : Int32))])) (fun _ k => XS.goto A15.here hx rfl (pc0 := 75) (pc' := 79) rfl (own_db hby at_75) (by decide) (by decide) k) ?_
              exact J16 _ (1 : Int32) (A15) (Or.inr rfl)
          by_cases hc187 : (x1 &&& (16 : Int32)) = (0 : Int32)
          · refine own_by (u' := T11.setTop (mkF m 64 #[.val (.int x1), .val (.int x2), .val (.long x3), .second, .val (.long x4), .second, .val (.long x5), .second, .val (.int o0), .val (.int o1), .val (.int o2), .val (.int se), .unset, .unset, .unset, .unset, .unset, .unset, .unset] [])) (fun _ k => XS.ifYes A12.here hx rfl (pc0 := 57) (pc' := 64) rfl (own_db hby at_57) rfl ((if0 _ _).trans (teq hc187).1) (by decide) (by decide) k) ?_
            refine own_by (u' := T11.setTop (mkF m 65 #[.val (.int x1), .val (.int x2), .val (.long x3), .second, .val (.long x4), .second, .val (.long x5), .second, .val (.int o0), .val (.int o1), .val (.int o2), .val (.int se), .unset, .unset, .unset, .unset, .unset, .unset, .unset] [(.int (0 : Int32))])) (fun _ k => XS.iconst A12.here hx rfl (own_db hby at_64) k) ?_
            exact J13 _ (0 : Int32) (A12) (Or.inl rfl)
          · refine own_by (u' := T11.setTop (mkF m 60 #[.val (.int x1), .val (.int x2), .val (.long x3), .second, .val (.long x4), .second, .val (.long x5), .second, .val (.int o0), .val (.int o1), .val (.int o2), .val (.int se), .unset, .unset, .unset, .unset, .unset, .unset, .unset] [])) (fun _ k => XS.ifNo A12.here hx rfl (own_db hby at_57) rfl ((if0 _ _).trans (feq hc187).1) k) ?_
            refine own_by (u' := T11.setTop (mkF m 61 #[.val (.int x1), .val (.int x2), .val (.long x3), .second, .val (.long x4), .second, .val (.long x5), .second, .val (.int o0), .val (.int o1), .val (.int o2), .val (.int se), .unset, .unset, .unset, .unset, .unset, .unset, .unset] [(.int (1 : Int32))])) (fun _ k => XS.iconst A12.here hx rfl (own_db hby at_60) k) ?_
            refine own_by (u' := T11.setTop (mkF m 65 #[.val (.int x1), .val (.int x2), .val (.long x3), .second, .val (.long x4), .second, .val (.long x5), .second, .val (.int o0), .val (.int o1), .val (.int o2), .val (.int se), .unset, .unset, .unset, .unset, .unset, .unset, .unset] [(.int (1 : Int32))])) (fun _ k => XS.goto A12.here hx rfl (pc0 := 61) (pc' := 65) rfl (own_db hby at_61) (by decide) (by decide) k) ?_
            exact J13 _ (1 : Int32) (A12) (Or.inr rfl)
        by_cases hc188 : (x1 &&& (8 : Int32)) = (0 : Int32)
        · refine own_by (u' := T8.setTop (mkF m 50 #[.val (.int x1), .val (.int x2), .val (.long x3), .second, .val (.long x4), .second, .val (.long x5), .second, .val (.int o0), .val (.int o1), .val (.int o2), .unset, .unset, .unset, .unset, .unset, .unset, .unset, .unset] [])) (fun _ k => XS.ifYes A9.here hx rfl (pc0 := 43) (pc' := 50) rfl (own_db hby at_43) rfl ((if0 _ _).trans (teq hc188).1) (by decide) (by decide) k) ?_
          refine own_by (u' := T8.setTop (mkF m 51 #[.val (.int x1), .val (.int x2), .val (.long x3), .second, .val (.long x4), .second, .val (.long x5), .second, .val (.int o0), .val (.int o1), .val (.int o2), .unset, .unset, .unset, .unset, .unset, .unset, .unset, .unset] [(.int (0 : Int32))])) (fun _ k => XS.iconst A9.here hx rfl (own_db hby at_50) k) ?_
          exact J10 _ (0 : Int32) (A9) (Or.inl rfl)
        · refine own_by (u' := T8.setTop (mkF m 46 #[.val (.int x1), .val (.int x2), .val (.long x3), .second, .val (.long x4), .second, .val (.long x5), .second, .val (.int o0), .val (.int o1), .val (.int o2), .unset, .unset, .unset, .unset, .unset, .unset, .unset, .unset] [])) (fun _ k => XS.ifNo A9.here hx rfl (own_db hby at_43) rfl ((if0 _ _).trans (feq hc188).1) k) ?_
          refine own_by (u' := T8.setTop (mkF m 47 #[.val (.int x1), .val (.int x2), .val (.long x3), .second, .val (.long x4), .second, .val (.long x5), .second, .val (.int o0), .val (.int o1), .val (.int o2), .unset, .unset, .unset, .unset, .unset, .unset, .unset, .unset] [(.int (1 : Int32))])) (fun _ k => XS.iconst A9.here hx rfl (own_db hby at_46) k) ?_
          refine own_by (u' := T8.setTop (mkF m 51 #[.val (.int x1), .val (.int x2), .val (.long x3), .second, .val (.long x4), .second, .val (.long x5), .second, .val (.int o0), .val (.int o1), .val (.int o2), .unset, .unset, .unset, .unset, .unset, .unset, .unset, .unset] [(.int (1 : Int32))])) (fun _ k => XS.goto A9.here hx rfl (pc0 := 47) (pc' := 51) rfl (own_db hby at_47) (by decide) (by decide) k) ?_
          exact J10 _ (1 : Int32) (A9) (Or.inr rfl)
      by_cases hc189 : (x1 &&& (4 : Int32)) = (0 : Int32)
      · refine own_by (u' := T5.setTop (mkF m 36 #[.val (.int x1), .val (.int x2), .val (.long x3), .second, .val (.long x4), .second, .val (.long x5), .second, .val (.int o0), .val (.int o1), .unset, .unset, .unset, .unset, .unset, .unset, .unset, .unset, .unset] [])) (fun _ k => XS.ifYes A6.here hx rfl (pc0 := 29) (pc' := 36) rfl (own_db hby at_29) rfl ((if0 _ _).trans (teq hc189).1) (by decide) (by decide) k) ?_
        refine own_by (u' := T5.setTop (mkF m 37 #[.val (.int x1), .val (.int x2), .val (.long x3), .second, .val (.long x4), .second, .val (.long x5), .second, .val (.int o0), .val (.int o1), .unset, .unset, .unset, .unset, .unset, .unset, .unset, .unset, .unset] [(.int (0 : Int32))])) (fun _ k => XS.iconst A6.here hx rfl (own_db hby at_36) k) ?_
        exact J7 _ (0 : Int32) (A6) (Or.inl rfl)
      · refine own_by (u' := T5.setTop (mkF m 32 #[.val (.int x1), .val (.int x2), .val (.long x3), .second, .val (.long x4), .second, .val (.long x5), .second, .val (.int o0), .val (.int o1), .unset, .unset, .unset, .unset, .unset, .unset, .unset, .unset, .unset] [])) (fun _ k => XS.ifNo A6.here hx rfl (own_db hby at_29) rfl ((if0 _ _).trans (feq hc189).1) k) ?_
        refine own_by (u' := T5.setTop (mkF m 33 #[.val (.int x1), .val (.int x2), .val (.long x3), .second, .val (.long x4), .second, .val (.long x5), .second, .val (.int o0), .val (.int o1), .unset, .unset, .unset, .unset, .unset, .unset, .unset, .unset, .unset] [(.int (1 : Int32))])) (fun _ k => XS.iconst A6.here hx rfl (own_db hby at_32) k) ?_
        refine own_by (u' := T5.setTop (mkF m 37 #[.val (.int x1), .val (.int x2), .val (.long x3), .second, .val (.long x4), .second, .val (.long x5), .second, .val (.int o0), .val (.int o1), .unset, .unset, .unset, .unset, .unset, .unset, .unset, .unset, .unset] [(.int (1 : Int32))])) (fun _ k => XS.goto A6.here hx rfl (pc0 := 33) (pc' := 37) rfl (own_db hby at_33) (by decide) (by decide) k) ?_
        exact J7 _ (1 : Int32) (A6) (Or.inr rfl)
    by_cases hc190 : (x1 &&& (2 : Int32)) = (0 : Int32)
    · refine own_by (u' := T2.setTop (mkF m 23 #[.val (.int x1), .val (.int x2), .val (.long x3), .second, .val (.long x4), .second, .val (.long x5), .second, .val (.int o0), .unset, .unset, .unset, .unset, .unset, .unset, .unset, .unset, .unset, .unset] [])) (fun _ k => XS.ifYes A3.here hx rfl (pc0 := 16) (pc' := 23) rfl (own_db hby at_16) rfl ((if0 _ _).trans (teq hc190).1) (by decide) (by decide) k) ?_
      refine own_by (u' := T2.setTop (mkF m 24 #[.val (.int x1), .val (.int x2), .val (.long x3), .second, .val (.long x4), .second, .val (.long x5), .second, .val (.int o0), .unset, .unset, .unset, .unset, .unset, .unset, .unset, .unset, .unset, .unset] [(.int (0 : Int32))])) (fun _ k => XS.iconst A3.here hx rfl (own_db hby at_23) k) ?_
      exact J4 _ (0 : Int32) (A3) (Or.inl rfl)
    · refine own_by (u' := T2.setTop (mkF m 19 #[.val (.int x1), .val (.int x2), .val (.long x3), .second, .val (.long x4), .second, .val (.long x5), .second, .val (.int o0), .unset, .unset, .unset, .unset, .unset, .unset, .unset, .unset, .unset, .unset] [])) (fun _ k => XS.ifNo A3.here hx rfl (own_db hby at_16) rfl ((if0 _ _).trans (feq hc190).1) k) ?_
      refine own_by (u' := T2.setTop (mkF m 20 #[.val (.int x1), .val (.int x2), .val (.long x3), .second, .val (.long x4), .second, .val (.long x5), .second, .val (.int o0), .unset, .unset, .unset, .unset, .unset, .unset, .unset, .unset, .unset, .unset] [(.int (1 : Int32))])) (fun _ k => XS.iconst A3.here hx rfl (own_db hby at_19) k) ?_
      refine own_by (u' := T2.setTop (mkF m 24 #[.val (.int x1), .val (.int x2), .val (.long x3), .second, .val (.long x4), .second, .val (.long x5), .second, .val (.int o0), .unset, .unset, .unset, .unset, .unset, .unset, .unset, .unset, .unset, .unset] [(.int (1 : Int32))])) (fun _ k => XS.goto A3.here hx rfl (pc0 := 20) (pc' := 24) rfl (own_db hby at_20) (by decide) (by decide) k) ?_
      exact J4 _ (1 : Int32) (A3) (Or.inr rfl)
  by_cases hc191 : (x1 &&& (1 : Int32)) = (0 : Int32)
  · refine own_by (u' := T0.setTop (mkF m 10 #[.val (.int x1), .val (.int x2), .val (.long x3), .second, .val (.long x4), .second, .val (.long x5), .second, .unset, .unset, .unset, .unset, .unset, .unset, .unset, .unset, .unset, .unset, .unset] [])) (fun _ k => XS.ifYes A0.here hx rfl (pc0 := 3) (pc' := 10) rfl (own_db hby at_3) rfl ((if0 _ _).trans (teq hc191).1) (by decide) (by decide) k) ?_
    refine own_by (u' := T0.setTop (mkF m 11 #[.val (.int x1), .val (.int x2), .val (.long x3), .second, .val (.long x4), .second, .val (.long x5), .second, .unset, .unset, .unset, .unset, .unset, .unset, .unset, .unset, .unset, .unset, .unset] [(.int (0 : Int32))])) (fun _ k => XS.iconst A0.here hx rfl (own_db hby at_10) k) ?_
    exact J1 _ (0 : Int32) (A0) (Or.inl rfl)
  · refine own_by (u' := T0.setTop (mkF m 6 #[.val (.int x1), .val (.int x2), .val (.long x3), .second, .val (.long x4), .second, .val (.long x5), .second, .unset, .unset, .unset, .unset, .unset, .unset, .unset, .unset, .unset, .unset, .unset] [])) (fun _ k => XS.ifNo A0.here hx rfl (own_db hby at_3) rfl ((if0 _ _).trans (feq hc191).1) k) ?_
    refine own_by (u' := T0.setTop (mkF m 7 #[.val (.int x1), .val (.int x2), .val (.long x3), .second, .val (.long x4), .second, .val (.long x5), .second, .unset, .unset, .unset, .unset, .unset, .unset, .unset, .unset, .unset, .unset, .unset] [(.int (1 : Int32))])) (fun _ k => XS.iconst A0.here hx rfl (own_db hby at_6) k) ?_
    refine own_by (u' := T0.setTop (mkF m 11 #[.val (.int x1), .val (.int x2), .val (.long x3), .second, .val (.long x4), .second, .val (.long x5), .second, .unset, .unset, .unset, .unset, .unset, .unset, .unset, .unset, .unset, .unset, .unset] [(.int (1 : Int32))])) (fun _ k => XS.goto A0.here hx rfl (pc0 := 7) (pc' := 11) rfl (own_db hby at_7) (by decide) (by decide) k) ?_
    exact J1 _ (1 : Int32) (A0) (Or.inr rfl)
set_option maxRecDepth 65536 in
set_option maxHeartbeats 40000000 in
theorem comes_1 {Post : Tables → Env → Array Value → State → Outcome → State → Prop} (hpost : ∀ tb e args s v u, (limb_1_1.after args s (.returned v) u = true ∧ limb_1_2.after args s (.returned v) u = true ∧ True) → FrameEnd s (.returned v) u (Jvm.fieldLocs frame_1_writes args s ++ Jvm.arrayLocs frame_1_arrays args s ++ Jvm.staticLocs frame_1_statics s) 24 128 → Post tb e args s (.returned v) u) :
    ArmFor flags0 classFile x code maxLocals ret World_1 tables_1 room_1 Calls_1 rest_1 Pre_1 Post := by
  intro l hfl _ _ p e ha hc hk s m args below hf hA hF happ hP
  obtain ⟨hcalls, hrest, hpre⟩ := hP
  obtain ⟨-, -, -, hnamed, -, -, -, hat⟩ := (Spec.applies_iff hf).mp happ
  obtain ⟨hg, hn⟩ := and_e (Cond.before_iff.mp (show (Jvm.Cond.and given_1 narrow_1).before args s = true from hpre))
  obtain ⟨h1, k0⟩ := and_e hg
  obtain ⟨j0, k1⟩ := and_e k0
  obtain ⟨j1, k2⟩ := and_e k1
  obtain ⟨j2, k3⟩ := and_e k2
  obtain ⟨j3, k4⟩ := and_e k3
  obtain ⟨w0, w1, w2, w3, w4, rfl⟩ : ∃ w0 w1 w2 w3 w4 : Value, args = #[w0, w1, w2, w3, w4] := by
    have hs : args.size = 5 := by simpa [Cond.value, given_1] using h1
    obtain ⟨L⟩ := args
    match L, hs with
    | [w0, w1, w2, w3, w4], _ => exact ⟨w0, w1, w2, w3, w4, rfl⟩
  have hw := fun d (hd : d ∈ tables_1) => atoms_spec (ws := Jvm.Cond.code x code maxLocals ret :: tables_1) hat d (List.mem_cons_of_mem _ hd)
  obtain ⟨i0, ei0⟩ := is_v j0
  obtain rfl : w0 = (.int i0) := Option.some.inj ei0
  obtain ⟨i1, ei1⟩ := is_v j1
  obtain rfl : w1 = (.int i1) := Option.some.inj ei1
  obtain ⟨i2, ei2⟩ := isL_v j2
  obtain rfl : w2 = (.long i2) := Option.some.inj ei2
  obtain ⟨i3, ei3⟩ := isL_v j3
  obtain rfl : w3 = (.long i3) := Option.some.inj ei3
  obtain ⟨i4, ei4⟩ := isL_v k4
  obtain rfl : w4 = (.long i4) := Option.some.inj ei4
  obtain ⟨n, o, h1, h2, h3, v, L, rfl, ⟨N, its', ⟨rfl, -⟩, -⟩, hq⟩ := g0 l s _ hw s.heap.size i0 i1 i2 i3 i4 s.heap tables_1 ⟨rfl, fun i P q => nomatch q⟩ p e ha hc hk s m _ below hf ((Spec.applies_iff_loose hf).mp happ).1 ⟨rfl, State.Warmed39.refl s, rfl⟩ trivial
  refine ⟨n, _, h1, h2, h3, hpost _ _ _ _ _ _ ⟨Cond.after_iff.mpr rfl, Cond.after_iff.mpr (eq_i res_at (Term.int_eval (1)) rfl), trivial⟩ ⟨hq.1, hq.2.1, (hq.2.2.sift fun y hy => Or.inr (N y hy)).mono (by decide) (by decide)⟩⟩
theorem main_1_1 : Claimed_1_1 := comes_1 fun _ _ _ _ _ _ h hF => ⟨h.1, hF⟩
theorem main_1_2 : Claimed_1_2 := comes_1 fun _ _ _ _ _ _ h hF => ⟨h.2.1, hF⟩
end Jvm.Pilot.@@N@@
namespace Jvm.Pilot.@@N@@
open Jvm Jvm.ClassFile Sem Op Lib Jvm.Free Jvm.Stand Jvm.Pilot.@@N@@.Jvm.D
/-! MADE BY PROGRAM (witnessworld.py) out of the Statement's table words and the real class files: 12 classes; the members and pool entries that the words name. The judged class is class 1, her method 1. -/
namespace start1
open Jvm.ClassFile
def u (s : String) : CpInfo := .utf8 (stringToUtf16 s)
/-- a pool by its gaps: so many unusable entries, then the entry; so many at the end -/
def gap : Nat → List CpInfo → List CpInfo
  | 0, r => r
  | n + 1, r => .unusable :: gap n r
def poolList (es : List (Nat × CpInfo)) (last : Nat) : List CpInfo := es.foldr (fun e r => gap e.1 (e.2 :: r)) (gap last [])
def pool (es : List (Nat × CpInfo)) (last : Nat) : Array CpInfo := ⟨poolList es last⟩
def fileOf (pool : Array CpInfo) (this : Nat) (attrs : Array Attribute := #[]) (ms : Array MethodInfo := #[]) (fl : Nat := 33) (sup : Nat := 0) (ifs : Array Nat := #[]) (fds : Array FieldInfo := #[]) : ClassFile where
  minorVersion := 0
  majorVersion := 65
  constantPool := pool
  accessFlags := fl
  thisClass := this
  superClass := sup
  interfaces := ifs
  fields := fds
  methods := ms
  attributes := attrs
def plain (name : String) (sup : Option ClassId) : Class where
  name := name
  kind := .ordinary
  loader := none
  accessFlags := 33
  super := sup
  interfaces := #[]
  cf := none
  fields := #[]
  methods := #[]
  instanceTypes := #[]
  staticTypes := #[]
  resolved := #[]
  callSites := []
  init := .initialized
  statics := none
  mirror := none

def pool0 : Array CpInfo := pool [(5, u "<init>"), (0, u "()V"), (1, .class_ 10), (1, u "java/lang/Object")] 113

def k0c0 : Code := { maxStack := 0, maxLocals := 1, code := object_method_1_code, exceptionTable := #[], attributes := #[] }
def k0m0 : Method := { name := "<init>", desc := "()V", sig := { parameters := [], returnType := none }, accessFlags := 1, code := some k0c0 }
/-- java/lang/Object -/
def k0 : Class := { plain "java/lang/Object" none with
  accessFlags := 33
  interfaces := #[]
  cf := some (fileOf pool0 8 #[] #[{ accessFlags := 1, nameIndex := 5, descriptorIndex := 6, attributes := #[] }] 33 0 #[] #[])
  fields := #[]
  methods := #[k0m0]
  instanceTypes := #[]
  staticTypes := #[]
  resolved := Array.replicate 124 none
  statics := none }

def pool1 : Array CpInfo := pool [(2, .class_ 4), (1, u "java/lang/Object"), (0, u "<init>"), (0, u "()V"), (0, .integer 2147483647), (0, .class_ 9), (0, u "com/example/strandwise/strandwise/network/SearchState"), (0, .methodref 8 11), (0, .nameAndType 5 12), (0, u "(I)V"), (0, .methodref 8 14), (0, .nameAndType 15 16), (0, u "offer"), (0, u "(IJ)Z"), (0, .methodref 8 18), (0, .nameAndType 19 20), (0, u "settleNext"), (0, u "()I"), (0, .methodref 8 22), (0, .nameAndType 23 6), (0, u "clear"), (0, .methodref 8 25), (0, .nameAndType 26 27), (0, u "isReached"), (0, u "(I)Z"), (0, .class_ 29), (0, u "com/example/strandwise/strandwise/network/SearchStateIsReachedPinLaw"), (2, u "law"), (0, u "(IIJJJ)Z")] 3

def k1m0 : Method := { name := "<init>", desc := "()V", sig := { parameters := [], returnType := none }, accessFlags := 1, code := none }
def k1c1 : Code := { maxStack := 4, maxLocals := 19, code := code, exceptionTable := #[], attributes := #[] }
def k1m1 : Method := { name := "law", desc := "(IIJJJ)Z", sig := { parameters := [.int, .int, .long, .long, .long], returnType := some .boolean }, accessFlags := 9, code := some k1c1 }
/-- com/example/strandwise/strandwise/network/SearchStateIsReachedPinLaw -/
def k1 : Class := { plain "com/example/strandwise/strandwise/network/SearchStateIsReachedPinLaw" (some 0) with
  accessFlags := 49
  interfaces := #[]
  cf := some (fileOf pool1 28 #[] #[{ accessFlags := 1, nameIndex := 5, descriptorIndex := 6, attributes := #[] }, { accessFlags := 9, nameIndex := 32, descriptorIndex := 33, attributes := #[] }] 49 2 #[] #[])
  fields := #[]
  methods := #[k1m0, k1m1]
  instanceTypes := #[]
  staticTypes := #[]
  resolved := Array.replicate 37 none
  statics := none }

def pool2 : Array CpInfo := pool [(1, .methodref 2 3), (0, .class_ 4), (0, .nameAndType 5 6), (0, u "java/lang/Object"), (0, u "<init>"), (0, u "()V"), (0, .fieldref 8 9), (0, .class_ 10), (0, .nameAndType 11 12), (0, u "com/example/strandwise/strandwise/network/SearchState"), (0, u "distance"), (0, u "[J"), (0, .fieldref 8 14), (0, .nameAndType 15 16), (0, u "state"), (0, u "[B"), (0, .class_ 18), (0, u "com/example/strandwise/strandwise/network/VertexHeap"), (0, .methodref 17 20), (0, .nameAndType 5 21), (0, u "([J)V"), (0, .fieldref 8 23), (0, .nameAndType 24 25), (0, u "queue"), (0, u "Lcom/example/strandwise/strandwise/network/VertexHeap;"), (0, .fieldref 8 27), (0, .nameAndType 28 29), (0, u "reached"), (0, u "[I"), (0, .methodref 17 31), (0, .nameAndType 32 6), (0, u "clear"), (0, .fieldref 8 34), (0, .nameAndType 35 36), (0, u "reachedCount"), (0, u "I"), (0, .methodref 17 38), (0, .nameAndType 39 40), (0, u "add"), (0, u "(I)V"), (0, .methodref 17 42), (0, .nameAndType 43 40), (0, u "keyLowered"), (7, u "()I"), (0, .methodref 17 53), (0, .nameAndType 54 51), (0, u "removeFirst"), (0, u "UNSEEN"), (0, u "B"), (2, u "QUEUED"), (1, u "SETTLED"), (4, u "offer"), (0, u "(IJ)Z"), (1, u "settleNext"), (0, u "isReached"), (0, u "(I)Z")] 5

def k2c0 : Code := { maxStack := 4, maxLocals := 2, code := prog_51_method_1_code, exceptionTable := #[], attributes := #[] }
def k2m0 : Method := { name := "<init>", desc := "(I)V", sig := { parameters := [.int], returnType := none }, accessFlags := 0, code := some k2c0 }
def k2c1 : Code := { maxStack := 3, maxLocals := 2, code := prog_51_method_2_code, exceptionTable := #[], attributes := #[] }
def k2m1 : Method := { name := "clear", desc := "()V", sig := { parameters := [], returnType := none }, accessFlags := 0, code := some k2c1 }
def k2c2 : Code := { maxStack := 5, maxLocals := 5, code := prog_51_method_3_code, exceptionTable := #[], attributes := #[] }
def k2m2 : Method := { name := "offer", desc := "(IJ)Z", sig := { parameters := [.int, .long], returnType := some .boolean }, accessFlags := 0, code := some k2c2 }
def k2c3 : Code := { maxStack := 3, maxLocals := 2, code := prog_51_method_6_code, exceptionTable := #[], attributes := #[] }
def k2m3 : Method := { name := "settleNext", desc := "()I", sig := { parameters := [], returnType := some .int }, accessFlags := 0, code := some k2c3 }
def k2c4 : Code := { maxStack := 2, maxLocals := 2, code := prog_51_method_7_code, exceptionTable := #[], attributes := #[] }
def k2m4 : Method := { name := "isReached", desc := "(I)Z", sig := { parameters := [.int], returnType := some .boolean }, accessFlags := 0, code := some k2c4 }
/-- com/example/strandwise/strandwise/network/SearchState -/
def k2 : Class := { plain "com/example/strandwise/strandwise/network/SearchState" (some 0) with
  accessFlags := 48
  interfaces := #[]
  cf := some (fileOf pool2 8 #[] #[{ accessFlags := 0, nameIndex := 5, descriptorIndex := 40, attributes := #[] }, { accessFlags := 0, nameIndex := 32, descriptorIndex := 6, attributes := #[] }, { accessFlags := 0, nameIndex := 66, descriptorIndex := 67, attributes := #[] }, { accessFlags := 0, nameIndex := 69, descriptorIndex := 51, attributes := #[] }, { accessFlags := 0, nameIndex := 70, descriptorIndex := 71, attributes := #[] }] 48 2 #[] #[{ accessFlags := 26, nameIndex := 55, descriptorIndex := 56, attributes := #[] }, { accessFlags := 26, nameIndex := 59, descriptorIndex := 56, attributes := #[] }, { accessFlags := 26, nameIndex := 61, descriptorIndex := 56, attributes := #[] }, { accessFlags := 18, nameIndex := 11, descriptorIndex := 12, attributes := #[] }, { accessFlags := 18, nameIndex := 15, descriptorIndex := 16, attributes := #[] }, { accessFlags := 18, nameIndex := 24, descriptorIndex := 25, attributes := #[] }, { accessFlags := 18, nameIndex := 28, descriptorIndex := 29, attributes := #[] }, { accessFlags := 2, nameIndex := 35, descriptorIndex := 36, attributes := #[] }])
  fields := #[{ name := "UNSEEN", type := .byte, accessFlags := 26, slot := 0, constantValue := 0 }, { name := "QUEUED", type := .byte, accessFlags := 26, slot := 1, constantValue := 0 }, { name := "SETTLED", type := .byte, accessFlags := 26, slot := 2, constantValue := 0 }, { name := "distance", type := (.array .long), accessFlags := 18, slot := 0, constantValue := 0 }, { name := "state", type := (.array .byte), accessFlags := 18, slot := 1, constantValue := 0 }, { name := "queue", type := (.object "com/example/strandwise/strandwise/network/VertexHeap"), accessFlags := 18, slot := 2, constantValue := 0 }, { name := "reached", type := (.array .int), accessFlags := 18, slot := 3, constantValue := 0 }, { name := "reachedCount", type := .int, accessFlags := 2, slot := 4, constantValue := 0 }]
  methods := #[k2m0, k2m1, k2m2, k2m3, k2m4]
  instanceTypes := #[(.array .long), (.array .byte), (.object "com/example/strandwise/strandwise/network/VertexHeap"), (.array .int), .int]
  staticTypes := #[.byte, .byte, .byte]
  resolved := Array.replicate 77 none
  statics := none }

def pool3 : Array CpInfo := pool [(1, .methodref 2 3), (0, .class_ 4), (0, .nameAndType 5 6), (0, u "java/lang/Object"), (0, u "<init>"), (0, u "()V"), (0, .fieldref 8 9), (0, .class_ 10), (0, .nameAndType 11 12), (0, u "com/example/strandwise/strandwise/network/VertexHeap"), (0, u "key"), (0, u "[J"), (0, .fieldref 8 14), (0, .nameAndType 15 16), (0, u "heap"), (0, u "[I"), (0, .fieldref 8 18), (0, .nameAndType 19 16), (0, u "position"), (0, .fieldref 8 21), (0, .nameAndType 22 23), (0, u "size"), (0, u "I"), (0, .methodref 8 25), (0, .nameAndType 26 27), (0, u "siftUp"), (0, u "(I)V"), (0, .methodref 8 29), (0, .nameAndType 30 27), (0, u "siftDown"), (0, .methodref 8 32), (0, .nameAndType 33 34), (0, u "precedes"), (0, u "(II)Z"), (0, .methodref 8 36), (0, .nameAndType 37 38), (0, u "place"), (0, u "(II)V"), (0, u "([J)V"), (5, u "add"), (0, u "keyLowered"), (1, u "()I"), (0, u "removeFirst"), (0, u "clear")] 2

def k3c0 : Code := { maxStack := 2, maxLocals := 2, code := prog_64_method_1_code, exceptionTable := #[], attributes := #[] }
def k3m0 : Method := { name := "<init>", desc := "([J)V", sig := { parameters := [(.array .long)], returnType := none }, accessFlags := 0, code := some k3c0 }
def k3c1 : Code := { maxStack := 3, maxLocals := 2, code := prog_64_method_3_code, exceptionTable := #[], attributes := #[] }
def k3m1 : Method := { name := "add", desc := "(I)V", sig := { parameters := [.int], returnType := none }, accessFlags := 0, code := some k3c1 }
def k3c2 : Code := { maxStack := 3, maxLocals := 2, code := prog_64_method_4_code, exceptionTable := #[], attributes := #[] }
def k3m2 : Method := { name := "keyLowered", desc := "(I)V", sig := { parameters := [.int], returnType := none }, accessFlags := 0, code := some k3c2 }
def k3c3 : Code := { maxStack := 4, maxLocals := 2, code := prog_64_method_6_code, exceptionTable := #[], attributes := #[] }
def k3m3 : Method := { name := "removeFirst", desc := "()I", sig := { parameters := [], returnType := some .int }, accessFlags := 0, code := some k3c3 }
def k3c4 : Code := { maxStack := 2, maxLocals := 1, code := prog_64_method_7_code, exceptionTable := #[], attributes := #[] }
def k3m4 : Method := { name := "clear", desc := "()V", sig := { parameters := [], returnType := none }, accessFlags := 0, code := some k3c4 }
def k3c5 : Code := { maxStack := 4, maxLocals := 3, code := prog_64_method_8_code, exceptionTable := #[], attributes := #[] }
def k3m5 : Method := { name := "precedes", desc := "(II)Z", sig := { parameters := [.int, .int], returnType := some .boolean }, accessFlags := 2, code := some k3c5 }
def k3c6 : Code := { maxStack := 4, maxLocals := 4, code := prog_64_method_9_code, exceptionTable := #[], attributes := #[] }
def k3m6 : Method := { name := "siftUp", desc := "(I)V", sig := { parameters := [.int], returnType := none }, accessFlags := 2, code := some k3c6 }
def k3c7 : Code := { maxStack := 4, maxLocals := 4, code := prog_64_method_10_code, exceptionTable := #[], attributes := #[] }
def k3m7 : Method := { name := "siftDown", desc := "(I)V", sig := { parameters := [.int], returnType := none }, accessFlags := 2, code := some k3c7 }
def k3c8 : Code := { maxStack := 3, maxLocals := 3, code := prog_64_method_11_code, exceptionTable := #[], attributes := #[] }
def k3m8 : Method := { name := "place", desc := "(II)V", sig := { parameters := [.int, .int], returnType := none }, accessFlags := 2, code := some k3c8 }
/-- com/example/strandwise/strandwise/network/VertexHeap -/
def k3 : Class := { plain "com/example/strandwise/strandwise/network/VertexHeap" (some 0) with
  accessFlags := 48
  interfaces := #[]
  cf := some (fileOf pool3 8 #[] #[{ accessFlags := 0, nameIndex := 5, descriptorIndex := 39, attributes := #[] }, { accessFlags := 0, nameIndex := 45, descriptorIndex := 27, attributes := #[] }, { accessFlags := 0, nameIndex := 46, descriptorIndex := 27, attributes := #[] }, { accessFlags := 0, nameIndex := 49, descriptorIndex := 48, attributes := #[] }, { accessFlags := 0, nameIndex := 50, descriptorIndex := 6, attributes := #[] }, { accessFlags := 2, nameIndex := 33, descriptorIndex := 34, attributes := #[] }, { accessFlags := 2, nameIndex := 26, descriptorIndex := 27, attributes := #[] }, { accessFlags := 2, nameIndex := 30, descriptorIndex := 27, attributes := #[] }, { accessFlags := 2, nameIndex := 37, descriptorIndex := 38, attributes := #[] }] 48 2 #[] #[{ accessFlags := 18, nameIndex := 11, descriptorIndex := 12, attributes := #[] }, { accessFlags := 18, nameIndex := 15, descriptorIndex := 16, attributes := #[] }, { accessFlags := 18, nameIndex := 19, descriptorIndex := 16, attributes := #[] }, { accessFlags := 2, nameIndex := 22, descriptorIndex := 23, attributes := #[] }])
  fields := #[{ name := "key", type := (.array .long), accessFlags := 18, slot := 0, constantValue := 0 }, { name := "heap", type := (.array .int), accessFlags := 18, slot := 1, constantValue := 0 }, { name := "position", type := (.array .int), accessFlags := 18, slot := 2, constantValue := 0 }, { name := "size", type := .int, accessFlags := 2, slot := 3, constantValue := 0 }]
  methods := #[k3m0, k3m1, k3m2, k3m3, k3m4, k3m5, k3m6, k3m7, k3m8]
  instanceTypes := #[(.array .long), (.array .int), (.array .int), .int]
  staticTypes := #[]
  resolved := Array.replicate 53 none
  statics := none }

def pool4 : Array CpInfo := pool [(1, u "java/lang/Cloneable"), (0, .class_ 1), (0, u "java/lang/Object"), (0, .class_ 3)] 3

/-- java/lang/Cloneable -/
def k4 : Class := { plain "java/lang/Cloneable" (some 0) with
  accessFlags := 1537
  interfaces := #[]
  cf := some (fileOf pool4 2 #[] #[] 1537 4 #[] #[])
  fields := #[]
  methods := #[]
  instanceTypes := #[]
  staticTypes := #[]
  resolved := Array.replicate 8 none
  statics := none }

def pool5 : Array CpInfo := pool [(1, u "java/io/Serializable"), (0, .class_ 1), (0, u "java/lang/Object"), (0, .class_ 3)] 3

/-- java/io/Serializable -/
def k5 : Class := { plain "java/io/Serializable" (some 0) with
  accessFlags := 1537
  interfaces := #[]
  cf := some (fileOf pool5 2 #[] #[] 1537 4 #[] #[])
  fields := #[]
  methods := #[]
  instanceTypes := #[]
  staticTypes := #[]
  resolved := Array.replicate 8 none
  statics := none }

/-- the primitive byte -/
def k6 : Class := { plain "byte" none with kind := .primitive 'B', accessFlags := 0x411 }
/-- [B -/
def k7 : Class := { plain "[B" (some 0) with kind := .array 6 .byte, interfaces := #[4, 5], accessFlags := 1041 }

/-- the primitive int -/
def k8 : Class := { plain "int" none with kind := .primitive 'I', accessFlags := 0x411 }
/-- [I -/
def k9 : Class := { plain "[I" (some 0) with kind := .array 8 .int, interfaces := #[4, 5], accessFlags := 1041 }

/-- the primitive long -/
def k10 : Class := { plain "long" none with kind := .primitive 'J', accessFlags := 0x411 }
/-- [J -/
def k11 : Class := { plain "[J" (some 0) with kind := .array 10 .long, interfaces := #[4, 5], accessFlags := 1041 }

def heap : Heap := #[]
def classes : Array Class := #[k0, k1, k2, k3, k4, k5, k6, k7, k8, k9, k10, k11]
def interned : List (Array UInt16 × Addr) := []
def slotsUsed : Nat := 0
def theMethod : MethodId := ⟨1, 1⟩
def args0 : Array Value := #[.int 5, .int 6, .long 7, .long 8, .long 9]
def aboutOver (below : List Frame) : State where
  vm := { classes := classes, interned := interned.toArray }
  heap := heap
  slotsUsed := slotsUsed
  threads := #[{ frames := .invoking theMethod args0 :: below }]
def below0 : List Frame := [.native { method := ⟨0, 0⟩, args := #[] }]
def about1 : State := aboutOver below0
def p0 : Program := .bare "" "" ""
def e0 : Env := launch0.env 0 0 0
theorem w_frames : about1.frames = Frame.invoking theMethod args0 :: below0 := rfl
set_option maxRecDepth 65536 in
theorem w_args : argsFit about1.vm theMethod args0 = true := by decide +kernel
set_option maxRecDepth 65536 in
theorem w_heap : heapFits about1 = true := by decide +kernel
set_option maxRecDepth 65536 in
theorem w_runnable : about1.curStatus? = some .runnable := by decide +kernel
set_option maxRecDepth 65536 in
theorem w_alone : about1.alone = true := by decide +kernel
set_option maxRecDepth 65536 in
theorem w_named : about1.methodNamed? x = some theMethod := by decide +kernel
set_option maxRecDepth 65536 in
theorem w_hears : about1.hears theMethod below0 = true := by decide +kernel
set_option maxRecDepth 65536 in
theorem w_ripe : about1.ripe theMethod args0 below0 = true := by decide +kernel
theorem w_running : about1.status = .running := rfl
set_option maxRecDepth 65536 in
theorem w_room : about1.hasRoom e0.platform room_1 = true :=
  launch0.hasRoom_least _ room_1 (by decide +kernel) (by decide +kernel) (by decide +kernel) (by decide +kernel) (by decide +kernel) (by decide +kernel)
theorem allAtoms_all (ts : List Jvm.Cond) (a : Array Jvm.Value) (st : Jvm.State) : (allAtoms ts).before a st = ts.all (fun c => c.before a st) := by
  induction ts with
  | nil => rfl
  | cons c t ih =>
    show (Jvm.Cond.and c (allAtoms t)).before a st = _
    rw [Jvm.Cond.before_and, ih, List.all_cons]
def words1 : List Jvm.Cond := Jvm.Cond.code x code maxLocals ret :: tables_1
/-- a 'code' word, met by the world's own term for the bytes: nothing is compared byte by byte -/
theorem code_word {y : MethodName} {bytes : ByteArray} {mx : Nat} {rt : Option FieldType} {a : Array Value} {s : State} {m : MethodId} {meth : Method} {c : Code} (h1 : s.methodNamed? y = some m) (h2 : s.vm.method? m = some meth) (h3 : meth.code = some c) (h4 : c.code = bytes)
    (h5 : (c.maxLocals == mx && c.exceptionTable.isEmpty && decide (c.maxStack ≤ mostOperands) && decide (meth.sig.returnType = rt) && !meth.locks && decide (parseMethodDescriptor y.desc = some meth.sig)) = true) : (Jvm.Cond.code y bytes mx rt).before a s = true := by
  simp only [Bool.and_eq_true, beq_iff_eq, Bool.not_eq_true', decide_eq_true_eq] at h5
  obtain ⟨⟨⟨⟨⟨g1, g2⟩, g3⟩, g4⟩, g5⟩, g6⟩ := h5
  simp [Cond.before, Cond.holds, Cond.value, h1, h2, h3, h4, g1, g2, g3, g4, g5, g6]
def isCode : Jvm.Cond → Bool
  | .code _ _ _ _ => true
  | _ => false
theorem all_split {L : List Jvm.Cond} {P : Jvm.Cond → Bool} (h1 : L.all (fun c => isCode c || P c) = true) (h2 : ∀ c ∈ L.filter isCode, P c = true) : L.all P = true := by
  refine List.all_eq_true.mpr fun c hc => ?_
  have h := List.all_eq_true.mp h1 c hc
  rcases Bool.eq_false_or_eq_true (isCode c) with hi | hi
  · exact h2 c (List.mem_filter.mpr ⟨hc, hi⟩)
  · simpa [hi] using h
set_option maxRecDepth 65536 in
theorem w_c0 : (Jvm.Cond.code x code maxLocals ret).before args0 about1 = true := code_word (m := ⟨1, 1⟩) (meth := k1m1) (c := k1c1) (by decide +kernel) rfl rfl rfl (by decide +kernel)
set_option maxRecDepth 65536 in
theorem w_c1 : (Jvm.Cond.code ({ cls := "com/example/strandwise/strandwise/network/SearchState", name := "<init>", desc := "(I)V" } : Jvm.MethodName) prog_51_method_1_code (2 : Nat) (Option.none : Option Jvm.ClassFile.FieldType)).before args0 about1 = true := code_word (m := ⟨2, 0⟩) (meth := k2m0) (c := k2c0) (by decide +kernel) rfl rfl rfl (by decide +kernel)
set_option maxRecDepth 65536 in
theorem w_c2 : (Jvm.Cond.code ({ cls := "java/lang/Object", name := "<init>", desc := "()V" } : Jvm.MethodName) object_method_1_code (1 : Nat) (Option.none : Option Jvm.ClassFile.FieldType)).before args0 about1 = true := code_word (m := ⟨0, 0⟩) (meth := k0m0) (c := k0c0) (by decide +kernel) rfl rfl rfl (by decide +kernel)
set_option maxRecDepth 65536 in
theorem w_c3 : (Jvm.Cond.code ({ cls := "com/example/strandwise/strandwise/network/VertexHeap", name := "<init>", desc := "([J)V" } : Jvm.MethodName) prog_64_method_1_code (2 : Nat) (Option.none : Option Jvm.ClassFile.FieldType)).before args0 about1 = true := code_word (m := ⟨3, 0⟩) (meth := k3m0) (c := k3c0) (by decide +kernel) rfl rfl rfl (by decide +kernel)
set_option maxRecDepth 65536 in
theorem w_c4 : (Jvm.Cond.code ({ cls := "com/example/strandwise/strandwise/network/SearchState", name := "isReached", desc := "(I)Z" } : Jvm.MethodName) prog_51_method_7_code (2 : Nat) (Option.some Jvm.ClassFile.FieldType.boolean)).before args0 about1 = true := code_word (m := ⟨2, 4⟩) (meth := k2m4) (c := k2c4) (by decide +kernel) rfl rfl rfl (by decide +kernel)
set_option maxRecDepth 65536 in
theorem w_c5 : (Jvm.Cond.code ({ cls := "com/example/strandwise/strandwise/network/SearchState", name := "offer", desc := "(IJ)Z" } : Jvm.MethodName) prog_51_method_3_code (5 : Nat) (Option.some Jvm.ClassFile.FieldType.boolean)).before args0 about1 = true := code_word (m := ⟨2, 2⟩) (meth := k2m2) (c := k2c2) (by decide +kernel) rfl rfl rfl (by decide +kernel)
set_option maxRecDepth 65536 in
theorem w_c6 : (Jvm.Cond.code ({ cls := "com/example/strandwise/strandwise/network/VertexHeap", name := "add", desc := "(I)V" } : Jvm.MethodName) prog_64_method_3_code (2 : Nat) (Option.none : Option Jvm.ClassFile.FieldType)).before args0 about1 = true := code_word (m := ⟨3, 1⟩) (meth := k3m1) (c := k3c1) (by decide +kernel) rfl rfl rfl (by decide +kernel)
set_option maxRecDepth 65536 in
theorem w_c7 : (Jvm.Cond.code ({ cls := "com/example/strandwise/strandwise/network/VertexHeap", name := "siftUp", desc := "(I)V" } : Jvm.MethodName) prog_64_method_9_code (4 : Nat) (Option.none : Option Jvm.ClassFile.FieldType)).before args0 about1 = true := code_word (m := ⟨3, 6⟩) (meth := k3m6) (c := k3c6) (by decide +kernel) rfl rfl rfl (by decide +kernel)
set_option maxRecDepth 65536 in
theorem w_c8 : (Jvm.Cond.code ({ cls := "com/example/strandwise/strandwise/network/VertexHeap", name := "place", desc := "(II)V" } : Jvm.MethodName) prog_64_method_11_code (3 : Nat) (Option.none : Option Jvm.ClassFile.FieldType)).before args0 about1 = true := code_word (m := ⟨3, 8⟩) (meth := k3m8) (c := k3c8) (by decide +kernel) rfl rfl rfl (by decide +kernel)
set_option maxRecDepth 65536 in
theorem w_c9 : (Jvm.Cond.code ({ cls := "com/example/strandwise/strandwise/network/VertexHeap", name := "precedes", desc := "(II)Z" } : Jvm.MethodName) prog_64_method_8_code (3 : Nat) (Option.some Jvm.ClassFile.FieldType.boolean)).before args0 about1 = true := code_word (m := ⟨3, 5⟩) (meth := k3m5) (c := k3c5) (by decide +kernel) rfl rfl rfl (by decide +kernel)
set_option maxRecDepth 65536 in
theorem w_c10 : (Jvm.Cond.code ({ cls := "com/example/strandwise/strandwise/network/SearchState", name := "settleNext", desc := "()I" } : Jvm.MethodName) prog_51_method_6_code (2 : Nat) (Option.some Jvm.ClassFile.FieldType.int)).before args0 about1 = true := code_word (m := ⟨2, 3⟩) (meth := k2m3) (c := k2c3) (by decide +kernel) rfl rfl rfl (by decide +kernel)
set_option maxRecDepth 65536 in
theorem w_c11 : (Jvm.Cond.code ({ cls := "com/example/strandwise/strandwise/network/VertexHeap", name := "removeFirst", desc := "()I" } : Jvm.MethodName) prog_64_method_6_code (2 : Nat) (Option.some Jvm.ClassFile.FieldType.int)).before args0 about1 = true := code_word (m := ⟨3, 3⟩) (meth := k3m3) (c := k3c3) (by decide +kernel) rfl rfl rfl (by decide +kernel)
set_option maxRecDepth 65536 in
theorem w_c12 : (Jvm.Cond.code ({ cls := "com/example/strandwise/strandwise/network/VertexHeap", name := "siftDown", desc := "(I)V" } : Jvm.MethodName) prog_64_method_10_code (4 : Nat) (Option.none : Option Jvm.ClassFile.FieldType)).before args0 about1 = true := code_word (m := ⟨3, 7⟩) (meth := k3m7) (c := k3c7) (by decide +kernel) rfl rfl rfl (by decide +kernel)
set_option maxRecDepth 65536 in
theorem w_c13 : (Jvm.Cond.code ({ cls := "com/example/strandwise/strandwise/network/SearchState", name := "clear", desc := "()V" } : Jvm.MethodName) prog_51_method_2_code (2 : Nat) (Option.none : Option Jvm.ClassFile.FieldType)).before args0 about1 = true := code_word (m := ⟨2, 1⟩) (meth := k2m1) (c := k2c1) (by decide +kernel) rfl rfl rfl (by decide +kernel)
set_option maxRecDepth 65536 in
theorem w_c14 : (Jvm.Cond.code ({ cls := "com/example/strandwise/strandwise/network/VertexHeap", name := "clear", desc := "()V" } : Jvm.MethodName) prog_64_method_7_code (1 : Nat) (Option.none : Option Jvm.ClassFile.FieldType)).before args0 about1 = true := code_word (m := ⟨3, 4⟩) (meth := k3m4) (c := k3c4) (by decide +kernel) rfl rfl rfl (by decide +kernel)
set_option maxRecDepth 65536 in
theorem w_c15 : (Jvm.Cond.code ({ cls := "com/example/strandwise/strandwise/network/VertexHeap", name := "keyLowered", desc := "(I)V" } : Jvm.MethodName) prog_64_method_4_code (2 : Nat) (Option.none : Option Jvm.ClassFile.FieldType)).before args0 about1 = true := code_word (m := ⟨3, 2⟩) (meth := k3m2) (c := k3c2) (by decide +kernel) rfl rfl rfl (by decide +kernel)
def codes1 : List Jvm.Cond := [Jvm.Cond.code x code maxLocals ret, Jvm.Cond.code ({ cls := "com/example/strandwise/strandwise/network/SearchState", name := "<init>", desc := "(I)V" } : Jvm.MethodName) prog_51_method_1_code (2 : Nat) (Option.none : Option Jvm.ClassFile.FieldType), Jvm.Cond.code ({ cls := "java/lang/Object", name := "<init>", desc := "()V" } : Jvm.MethodName) object_method_1_code (1 : Nat) (Option.none : Option Jvm.ClassFile.FieldType), Jvm.Cond.code ({ cls := "com/example/strandwise/strandwise/network/VertexHeap", name := "<init>", desc := "([J)V" } : Jvm.MethodName) prog_64_method_1_code (2 : Nat) (Option.none : Option Jvm.ClassFile.FieldType), Jvm.Cond.code ({ cls := "com/example/strandwise/strandwise/network/SearchState", name := "isReached", desc := "(I)Z" } : Jvm.MethodName) prog_51_method_7_code (2 : Nat) (Option.some Jvm.ClassFile.FieldType.boolean), Jvm.Cond.code ({ cls := "com/example/strandwise/strandwise/network/SearchState", name := "offer", desc := "(IJ)Z" } : Jvm.MethodName) prog_51_method_3_code (5 : Nat) (Option.some Jvm.ClassFile.FieldType.boolean), Jvm.Cond.code ({ cls := "com/example/strandwise/strandwise/network/VertexHeap", name := "add", desc := "(I)V" } : Jvm.MethodName) prog_64_method_3_code (2 : Nat) (Option.none : Option Jvm.ClassFile.FieldType), Jvm.Cond.code ({ cls := "com/example/strandwise/strandwise/network/VertexHeap", name := "siftUp", desc := "(I)V" } : Jvm.MethodName) prog_64_method_9_code (4 : Nat) (Option.none : Option Jvm.ClassFile.FieldType), Jvm.Cond.code ({ cls := "com/example/strandwise/strandwise/network/VertexHeap", name := "place", desc := "(II)V" } : Jvm.MethodName) prog_64_method_11_code (3 : Nat) (Option.none : Option Jvm.ClassFile.FieldType), Jvm.Cond.code ({ cls := "com/example/strandwise/strandwise/network/VertexHeap", name := "precedes", desc := "(II)Z" } : Jvm.MethodName) prog_64_method_8_code (3 : Nat) (Option.some Jvm.ClassFile.FieldType.boolean), Jvm.Cond.code ({ cls := "com/example/strandwise/strandwise/network/SearchState", name := "settleNext", desc := "()I" } : Jvm.MethodName) prog_51_method_6_code (2 : Nat) (Option.some Jvm.ClassFile.FieldType.int), Jvm.Cond.code ({ cls := "com/example/strandwise/strandwise/network/VertexHeap", name := "removeFirst", desc := "()I" } : Jvm.MethodName) prog_64_method_6_code (2 : Nat) (Option.some Jvm.ClassFile.FieldType.int), Jvm.Cond.code ({ cls := "com/example/strandwise/strandwise/network/VertexHeap", name := "siftDown", desc := "(I)V" } : Jvm.MethodName) prog_64_method_10_code (4 : Nat) (Option.none : Option Jvm.ClassFile.FieldType), Jvm.Cond.code ({ cls := "com/example/strandwise/strandwise/network/SearchState", name := "clear", desc := "()V" } : Jvm.MethodName) prog_51_method_2_code (2 : Nat) (Option.none : Option Jvm.ClassFile.FieldType), Jvm.Cond.code ({ cls := "com/example/strandwise/strandwise/network/VertexHeap", name := "clear", desc := "()V" } : Jvm.MethodName) prog_64_method_7_code (1 : Nat) (Option.none : Option Jvm.ClassFile.FieldType), Jvm.Cond.code ({ cls := "com/example/strandwise/strandwise/network/VertexHeap", name := "keyLowered", desc := "(I)V" } : Jvm.MethodName) prog_64_method_4_code (2 : Nat) (Option.none : Option Jvm.ClassFile.FieldType)]
set_option maxRecDepth 65536 in
theorem codes_eq : words1.filter isCode = codes1 := rfl
theorem w_codes : ∀ c ∈ words1.filter isCode, c.before args0 about1 = true := by
  rw [codes_eq]
  intro c hc
  simp only [codes1, List.mem_cons, List.not_mem_nil, or_false] at hc
  rcases hc with rfl | rfl | rfl | rfl | rfl | rfl | rfl | rfl | rfl | rfl | rfl | rfl | rfl | rfl | rfl | rfl
  · exact w_c0
  · exact w_c1
  · exact w_c2
  · exact w_c3
  · exact w_c4
  · exact w_c5
  · exact w_c6
  · exact w_c7
  · exact w_c8
  · exact w_c9
  · exact w_c10
  · exact w_c11
  · exact w_c12
  · exact w_c13
  · exact w_c14
  · exact w_c15
set_option maxRecDepth 65536 in
theorem w_t1 : (words1.take 24).all (fun c => isCode c || c.before args0 about1) = true := by decide +kernel
set_option maxRecDepth 65536 in
theorem w_t2 : ((words1.drop 24).take 24).all (fun c => isCode c || c.before args0 about1) = true := by decide +kernel
set_option maxRecDepth 65536 in
theorem w_t3 : (((words1.drop 24).drop 24).take 24).all (fun c => isCode c || c.before args0 about1) = true := by decide +kernel
set_option maxRecDepth 65536 in
theorem w_t4 : (((words1.drop 24).drop 24).drop 24).all (fun c => isCode c || c.before args0 about1) = true := by decide +kernel
theorem w_tables : (allAtoms (Jvm.Cond.code x code maxLocals ret :: tables_1)).before args0 about1 = true := by
  rw [allAtoms_all]
  show words1.all (fun c => c.before args0 about1) = true
  refine all_split ?_ w_codes
  rw [← List.take_append_drop 24 words1, List.all_append, w_t1, ← List.take_append_drop 24 (words1.drop 24), List.all_append, w_t2, ← List.take_append_drop 24 ((words1.drop 24).drop 24), List.all_append, w_t3, w_t4]
  rfl
set_option maxRecDepth 65536 in
theorem w_case : (Jvm.Cond.and given_1 narrow_1).before args0 about1 = true := by decide +kernel
theorem w_applies : (headSpec (Jvm.Cond.code x code maxLocals ret :: tables_1) room_1).applies x e0.platform about1 = true :=
  (Spec.applies_iff w_frames).mpr ⟨w_running, w_runnable, w_alone, w_named, w_hears, w_ripe, w_room, w_tables⟩
theorem atStart : AtStart classFile x code maxLocals ret World_1 tables_1 room_1 Calls_1 rest_1 Pre_1 launch0 p0 e0 about1 theMethod args0 below0 :=
  ⟨lists_1, trivial, launch0.admits_env _ _ _, launch0.least_env, fairChoices_fair.cas, fairChoices_fair.clock, w_frames, w_args, w_heap, w_applies, trivial, trivial, w_case⟩
end start1
theorem witness_1 : WitnessClaimed_1 := ⟨start1.p0, start1.e0, start1.about1, start1.theMethod, start1.args0, start1.below0, start1.atStart⟩
end Jvm.Pilot.@@N@@
