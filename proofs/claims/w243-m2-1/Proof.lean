import JvmDerived
import JvmDerived.Pilot.@@N@@Statement
import JvmDerived.Pilot.@@N@@Code
set_option linter.unusedVariables false
set_option linter.unusedSimpArgs false
namespace Jvm.Pilot.@@N@@
open Jvm Jvm.ClassFile Sem Op Lib Jvm.Free Jvm.Stand Jvm.LawKit Jvm.RoadKit Bundle Jvm.Pilot.@@N@@.Jvm.D
section Own
variable {p : Program} {l : Launch} {e : Env} {R : Room} {s : State} {m : MethodId} {args : Array Value} {below : List Frame} {meth : Method} {c : Code} {T : State} {locs : List Loc} {cells slots n0 : Nat} {Z : State} {a0 : Array Value} {h h' : Heap} {its : List (Cell → Prop)} {Q : Option Value → List (Cell → Prop) → Prop} {pc : Nat} {Ls : Array Slot} {stk rest : List Value} {own : String}
/-- the new part of the heap: the cells from n0 on, one word on each -/
def own_hp (n0 : Nat) (h : Heap) (its : List (Cell → Prop)) : Prop := h.size = n0 + its.length ∧ ∀ (i : Nat) (P : Cell → Prop), its[i]? = some P → ∃ cl : Cell, h[n0 + i]? = some cl ∧ P cl
/-- where the walk stands -/
def own_at (p : Program) (l : Launch) (e : Env) (R : Room) (s : State) (m : MethodId) (args : Array Value) (below : List Frame) (meth : Method) (c : Code) (n0 : Nat) (T : State) (cells slots : Nat) (its : List (Cell → Prop)) : Prop :=
  ∃ locs, Stand p l e R s m args below meth c T locs cells slots ∧ Fr n0 locs ∧ own_hp n0 T.heap its
/-- from u the method comes to its end, and Q holds there -/
def own_go (p : Program) (e : Env) (R : Room) (s : State) (below : List Frame) (n0 : Nat) (Q : Option Value → List (Cell → Prop) → Prop) (u : State) : Prop :=
  ∃ (t : State) (v : Option Value) (L : List Loc) (its : List (Cell → Prop)), Steps p.tables e below u t ∧ t.status = .running ∧ Ended t below (.returned v) ∧ Q v its ∧ Fr n0 L ∧ own_hp n0 t.heap its ∧ s.WarmedH t.vm ∧ s.sameButNew ({ t with vm := s.vm } : State) L R.cells R.slots
theorem own_at.here (A : own_at p l e R s m args below meth c n0 T cells slots its) : At T m c below := by
  obtain ⟨_, X, _⟩ := A; exact X.here
theorem own_at.more (A : own_at p l e R s m args below meth c n0 T cells slots its) {cells' slots' : Nat} (hc : cells ≤ cells') (hs : slots ≤ slots') : own_at p l e R s m args below meth c n0 T cells' slots' its := by
  obtain ⟨L, X, r⟩ := A; exact ⟨L, X.more hc hs, r⟩
theorem own_by {u u' : State} (q : ∀ target, Steps p.tables e below u' target → Steps p.tables e below u target) (k : own_go p e R s below n0 Q u') : own_go p e R s below n0 Q u := by
  obtain ⟨t, v, L, i, h1, r⟩ := k
  exact ⟨t, v, L, i, q t h1, r⟩
theorem own_nil {α : Type} {P : α → Prop} : ∀ x ∈ ([] : List α), P x := fun _ q => nomatch q
theorem own_cons {α : Type} {P : α → Prop} {y : α} {L : List α} (q : P y) (r : ∀ x ∈ L, P x) : ∀ x ∈ y :: L, P x := fun x z => (List.mem_cons.mp z).elim (fun u => u ▸ q) (r x)
theorem own_hp.push (H : own_hp n0 h its) {cl : Cell} {P : Cell → Prop} (hP : P cl) : own_hp n0 (h.push cl) (its ++ [P]) := by
  refine ⟨by rw [Array.size_push, H.1, List.length_append]; rfl, fun i P' hi => ?_⟩
  by_cases q : i < its.length
  · rw [List.getElem?_append_left q] at hi
    obtain ⟨c, h1, h2⟩ := H.2 i P' hi
    refine ⟨c, ?_, h2⟩
    rw [Array.getElem?_push_lt (Array.getElem?_eq_some_iff.mp h1).1]
    exact (Array.getElem?_eq_getElem _).symm.trans h1
  · have q2 : i = its.length := by
      have := (List.getElem?_eq_some_iff.mp hi).1
      simp only [List.length_append, List.length_cons, List.length_nil] at this
      omega
    subst q2
    simp only [List.getElem?_concat_length, Option.some.injEq] at hi
    subst hi
    refine ⟨cl, ?_, hP⟩
    rw [← H.1]; simp
theorem own_hp.wr (H : own_hp n0 h its) {i sl : Nat} {v : Value} {P P' : Cell → Prop} (hi : its[i]? = some P) (W : Wr h h' (n0 + i) sl v) (hP : ∀ cl, h[n0 + i]? = some cl → P cl → P' (cl.setSlot sl v)) : own_hp n0 h' (its.set i P') := by
  obtain ⟨cell, w1, w2, w3, rfl⟩ := W
  refine ⟨by rw [Array.size_setIfInBounds, List.length_set]; exact H.1, fun j P2 hj => ?_⟩
  by_cases q : i = j
  · subst q
    have hl := (List.getElem?_eq_some_iff.mp hi).1
    rw [List.getElem?_set_self hl] at hj
    cases hj
    obtain ⟨cl, g1, g2⟩ := H.2 i P hi
    cases w1.symm.trans g1
    exact ⟨cell.setSlot sl v, by simp [(Array.getElem?_eq_some_iff.mp w1).1], hP _ w1 g2⟩
  · rw [List.getElem?_set_ne q] at hj
    obtain ⟨cl, g1, g2⟩ := H.2 j P2 hj
    exact ⟨cl, by rw [Array.getElem?_setIfInBounds_ne (by omega)]; exact g1, g2⟩
theorem own_geti {i : Nat} {P P' : Cell → Prop} (hi : its[i]? = some P) : (its.set i P')[i]? = some P' := List.getElem?_set_self (List.getElem?_eq_some_iff.mp hi).1
/-- an object of just that class, its fields ns holding vs -/
def own_obj (Z : State) (C : String) (ns : List (String × String)) (vs : List Value) : Cell → Prop := fun cl => ∀ (h : Heap) (a : Addr), h[a]? = some cl → Exa Z h a C ∧ ∀ (i : Nat) (f : String × String) (v : Value), ns[i]? = some f → vs[i]? = some v → Fld Z h a C f.1 f.2 v
/-- an array of ints (shorts, chars, bytes) -/
def own_ia (Z : State) (ty : FieldType) (xs : List Int32) : Cell → Prop := fun cl => xs.length < 2 ^ 31 ∧ cl.slots = (xs.map Value.int).toArray ∧ Z.isArrayOf cl ty ∧ cl.vm ≠ .unknown ∧ (∀ x ∈ xs, fits ty (.int x) = true) ∧ Z.vm.findClass ("[" ++ ty.toString) = some cl.cls
/-- an array of longs -/
def own_la (Z : State) (xs : List Int64) : Cell → Prop := fun cl => xs.length < 2 ^ 31 ∧ cl.slots = (xs.map Value.long).toArray ∧ Z.isArrayOf cl .long ∧ cl.vm ≠ .unknown
/-- the fields' places are unlike -/
def own_apart (Z : State) (C : String) (ns : List (String × String)) : Prop := ∀ (i j : Nat) (f g : String × String), ns[i]? = some f → ns[j]? = some g → i ≠ j → Jvm.RoadKit.slotOf Z C f.1 f.2 ≠ Jvm.RoadKit.slotOf Z C g.1 g.2
theorem own_apart_of {C : String} {ns : List (String × String)} (hL : ∀ f ∈ ns, Laid Z a0 C C f.1 f.2 ∧ ∃ t, parseFieldDescriptor f.2 = some t) (hn : (ns.map (·.1)).Nodup) : own_apart Z C ns := by
  intro i j f g hi hj hij
  obtain ⟨l1, t1, d1⟩ := hL f (List.mem_of_getElem? hi)
  obtain ⟨l2, t2, d2⟩ := hL g (List.mem_of_getElem? hj)
  refine slot_ne l1 l2 (fun q => ?_) d1 d2
  have e1 : (ns.map (·.1))[i]? = some f.1 := by rw [List.getElem?_map, hi]; rfl
  have e2 : (ns.map (·.1))[j]? = some g.1 := by rw [List.getElem?_map, hj]; rfl
  obtain ⟨b1, c1⟩ := List.getElem?_eq_some_iff.mp e1
  obtain ⟨b2, c2⟩ := List.getElem?_eq_some_iff.mp e2
  have pw := List.pairwise_iff_getElem.mp hn
  rcases Nat.lt_or_gt_of_ne hij with z | z
  · exact pw i j b1 b2 z (by rw [c1, c2, q])
  · exact pw j i b2 b1 z (by rw [c1, c2, q])
theorem own_obj.set {C : String} {ns : List (String × String)} {vs : List Value} {j : Nat} {n d : String} {v old : Value} {cl : Cell} (O : own_obj Z C ns vs cl) (ap : own_apart Z C ns) (hj : ns[j]? = some (n, d)) (hv : vs[j]? = some old) (hlt : Jvm.RoadKit.slotOf Z C n d < cl.slots.size) (hst : cl.vm.isStatics = false) : own_obj Z C ns (vs.set j v) (cl.setSlot (Jvm.RoadKit.slotOf Z C n d) v) := by
  intro h2 a2 ha2
  have hb : (#[cl] : Heap)[0]? = some cl := rfl
  have W : Wr (#[cl] : Heap) (#[cl.setSlot (Jvm.RoadKit.slotOf Z C n d) v] : Heap) 0 (Jvm.RoadKit.slotOf Z C n d) v := ⟨cl, hb, hst, hlt, rfl⟩
  obtain ⟨E, F⟩ := O _ _ hb
  have E' : Exa Z (#[cl.setSlot (Jvm.RoadKit.slotOf Z C n d) v] : Heap) 0 C := E.wr W
  refine ⟨?_, fun i f w hi hw => ?_⟩
  · obtain ⟨c1, k, q1, r⟩ := E'
    cases (show (#[cl.setSlot (Jvm.RoadKit.slotOf Z C n d) v] : Heap)[0]? = some _ from rfl).symm.trans q1
    exact ⟨_, k, ha2, r⟩
  · have F' : Fld Z (#[cl.setSlot (Jvm.RoadKit.slotOf Z C n d) v] : Heap) 0 C f.1 f.2 w := by
      by_cases q : j = i
      · subst q
        cases hj.symm.trans hi
        rw [List.getElem?_set_self (List.getElem?_eq_some_iff.mp hv).1] at hw
        cases hw
        exact (F j (n, d) old hj hv).same W
      · rw [List.getElem?_set_ne q] at hw
        exact (F i f w hi hw).other W (Or.inr (ap i j f (n, d) hi hj (Ne.symm q)))
    obtain ⟨c1, cf, k, i1, f1, q1, r⟩ := F'
    cases (show (#[cl.setSlot (Jvm.RoadKit.slotOf Z C n d) v] : Heap)[0]? = some _ from rfl).symm.trans q1
    exact ⟨_, cf, k, i1, f1, ha2, r⟩
theorem own_db {bs : ByteArray} (h1 : c.code = bs) {r : Except DecodeError (Instr × Nat)} (h2 : decode bs pc = r) : decode c.code pc = r := h1 ▸ h2
/-! steps -/
theorem own_new (A : own_at p l e R s m args below meth c n0 T cells slots its) (hx : p.tables.exec = Jvm.exec) (hZ : Z.Warmed39 s.vm) {C : String} {index n : Nat} (hown : s.vm.findClass own = some m.cls) (w : (Cond.classLink own index C).before a0 Z = true) (wi : (Cond.instantiable C n).before a0 Z = true) (wz : (Cond.initialized C).before a0 Z = true)
    {ns : List (String × String)} {vs : List Value} (hns : ∀ f ∈ ns.zip vs, Laid Z a0 C C f.1.1 f.1.2 ∧ ∃ ty, parseFieldDescriptor f.1.2 = some ty ∧ f.2 = defaultValue ty)
    (hd : decode c.code pc = .ok (.new index, 3)) (hc : cells + 1 ≤ R.cells) (hl : slots + n ≤ R.slots)
    (k : ∀ T', own_at p l e R s m args below meth c n0 T' (cells + 1) (slots + n) (its ++ [own_obj Z C ns vs]) → own_go p e R s below n0 Q (T'.setTop (mkF m (pc + 3) Ls (.ref (n0 + its.length) :: stk)))) :
    own_go p e R s below n0 Q (T.setTop (mkF m pc Ls stk)) := by
  obtain ⟨L, X, N, H⟩ := A
  obtain ⟨vm', cC, kC, h1, h2, h3, h4, X', st⟩ := X.newCold hx hown (mv hZ w) (mv hZ wi) (mv hZ wz) (g := mkF m pc Ls stk) rfl hd hc hl
  rw [H.1] at st
  rw [hZ.alike.findClass] at h1
  obtain ⟨kZ, z1, -⟩ := Vm.findClass_spec h1
  obtain ⟨k', z2, z3⟩ := hZ.alike.2.2 _ _ z1
  cases h2.symm.trans z2
  have ei : kC.instanceTypes = kZ.instanceTypes := by rw [z3]
  refine own_by st (k _ ⟨L, X', N, H.push fun h2 a2 ha2 => ⟨⟨_, kZ, ha2, h1, z1, rfl, fun _ => by simp [ei]⟩, fun i f v hi hv => ?_⟩⟩)
  have hz : (ns.zip vs)[i]? = some (f, v) := List.getElem?_zip_eq_some.mpr ⟨hi, hv⟩
  obtain ⟨La, ty, ht, hdv⟩ := hns _ (List.mem_of_getElem? hz)
  obtain ⟨c1, k1, cf, kf, i1, f1, a1, a2', a3, a4, a5, a6, -⟩ := La.spec
  cases h1.symm.trans a1
  cases z1.symm.trans a2'
  dsimp only at hdv ht a3
  subst hdv
  exact ⟨_, cf, kf, i1, f1, ha2, a3, a4, by simp, rfl, a5, by simp [ei, a6, (State.fieldFound?_type a3 ht).2]⟩
theorem own_fit0 {ty : FieldType} (h0 : defaultValue ty = .int 0) : fits ty (.int 0) = true := by
  cases ty <;> first | rfl | (simp [defaultValue] at h0)
theorem own_newP (A : own_at p l e R s m args below meth c n0 T cells slots its) (hx : p.tables.exec = Jvm.exec) (hZ : Z.Warmed39 s.vm) {aty : ArrayType} (w : (Cond.arrayClass (newarray.typeOf aty)).before a0 Z = true)
    (hd : decode c.code pc = .ok (.newarray aty, 2)) {n : Int32} (q : Nat) (hn : ¬ n < 0 ∧ n.toNatClampNeg = q) {cap : Nat} (hcap : q ≤ cap) (hb : cap * 8 ≤ 536870912) (h0 : defaultValue (newarray.typeOf aty) = .int 0) (hc : cells + 1 ≤ R.cells) (hl : slots + cap ≤ R.slots)
    (k : ∀ T', own_at p l e R s m args below meth c n0 T' (cells + 1) (slots + cap) (its ++ [own_ia Z (newarray.typeOf aty) (List.replicate q 0)]) → own_go p e R s below n0 Q (T'.setTop (mkF m (pc + 2) Ls (.ref (n0 + its.length) :: stk)))) :
    own_go p e R s below n0 Q (T.setTop (mkF m pc Ls (.int n :: stk))) := by
  obtain ⟨L, X, N, H⟩ := A
  obtain ⟨hn, rfl⟩ := hn
  have hcb : componentBytes (newarray.typeOf aty) ≤ 8 := by cases aty <;> decide
  obtain ⟨cA, kA, comp, h1, h2, h3, X', st⟩ := X.newarrayPrim hx (mvA hZ w) (g := mkF m pc Ls (.int n :: stk)) rfl hd rfl hn (Nat.le_trans (Nat.mul_le_mul hcap hcb) hb) hc (by omega)
  rw [H.1] at st
  rw [hZ.alike.findClass] at h1
  obtain ⟨kZ, z1, -⟩ := Vm.findClass_spec h1
  obtain ⟨k', z2, z3⟩ := hZ.alike.2.2 _ _ z1
  cases h2.symm.trans z2
  refine own_by st (k _ ⟨L, X'.more (Nat.le_refl _) (by omega), N, H.push ⟨by rw [List.length_replicate]; exact n.toNatClampNeg_lt, by rw [h0]; simp [List.map_replicate], ⟨by simp, kZ, z1, comp, by rw [← h3, z3]⟩, by simp, fun x hx => ?_, h1⟩⟩)
  rw [List.eq_of_mem_replicate hx]
  exact own_fit0 h0
theorem own_newL (A : own_at p l e R s m args below meth c n0 T cells slots its) (hx : p.tables.exec = Jvm.exec) (hZ : Z.Warmed39 s.vm) (w : (Cond.arrayClass .long).before a0 Z = true)
    (hd : decode c.code pc = .ok (.newarray .long, 2)) {n : Int32} (q : Nat) (hn : ¬ n < 0 ∧ n.toNatClampNeg = q) {cap : Nat} (hcap : q ≤ cap) (hb : cap * 8 ≤ 536870912) (hc : cells + 1 ≤ R.cells) (hl : slots + cap ≤ R.slots)
    (k : ∀ T', own_at p l e R s m args below meth c n0 T' (cells + 1) (slots + cap) (its ++ [own_la Z (List.replicate q 0)]) → own_go p e R s below n0 Q (T'.setTop (mkF m (pc + 2) Ls (.ref (n0 + its.length) :: stk)))) :
    own_go p e R s below n0 Q (T.setTop (mkF m pc Ls (.int n :: stk))) := by
  obtain ⟨L, X, N, H⟩ := A
  obtain ⟨hn, rfl⟩ := hn
  obtain ⟨cA, kA, comp, h1, h2, h3, X', st⟩ := X.newarrayPrim hx (atype := .long) (mvA hZ w) (g := mkF m pc Ls (.int n :: stk)) rfl hd rfl hn (Nat.le_trans (Nat.mul_le_mul hcap (by decide)) hb) hc (by omega)
  rw [H.1] at st
  rw [hZ.alike.findClass] at h1
  obtain ⟨kZ, z1, -⟩ := Vm.findClass_spec h1
  obtain ⟨k', z2, z3⟩ := hZ.alike.2.2 _ _ z1
  cases h2.symm.trans z2
  exact own_by st (k _ ⟨L, X'.more (Nat.le_refl _) (by omega), N, H.push ⟨by rw [List.length_replicate]; exact n.toNatClampNeg_lt, by simp [List.map_replicate, newarray.typeOf, defaultValue], ⟨by simp, kZ, z1, comp, by rw [z3] at h3; exact h3⟩, by simp⟩⟩)
theorem own_getF (A : own_at p l e R s m args below meth c n0 T cells slots its) (hx : p.tables.exec = Jvm.exec) (hZ : Z.Warmed39 s.vm) {C n d : String} {index i : Nat} (hown : s.vm.findClass own = some m.cls) (w : (Cond.fieldLink own index C n d).before a0 Z = true)
    {ns : List (String × String)} {vs : List Value} (hi : its[i]? = some (own_obj Z C ns vs)) (j : Nat) (hj : ns[j]? = some (n, d)) {v : Value} (hv : vs[j]? = some v) (hd : decode c.code pc = .ok (.getfield index, 3))
    (k : ∀ T', own_at p l e R s m args below meth c n0 T' cells slots its → own_go p e R s below n0 Q (T'.setTop (mkF m (pc + 3) Ls (v :: stk)))) :
    own_go p e R s below n0 Q (T.setTop (mkF m pc Ls (.ref (n0 + i) :: stk))) := by
  obtain ⟨L, X, N, H⟩ := A
  obtain ⟨cl, g1, g2⟩ := H.2 i _ hi
  obtain ⟨T', X', e', st⟩ := getF X hx hZ hown (host := "") (Or.inl w) Via.refl rfl ((g2 _ _ g1).2 j _ v hj hv) (g := mkF m pc Ls (.ref (n0 + i) :: stk)) rfl rfl hd
  exact own_by st (k T' ⟨L, X', N, by rw [e']; exact H⟩)
theorem own_putF (A : own_at p l e R s m args below meth c n0 T cells slots its) (hx : p.tables.exec = Jvm.exec) (hZ : Z.Warmed39 s.vm) {C n d : String} {index i kk : Nat} {ty : FieldType} (hown : s.vm.findClass own = some m.cls) (w : (Cond.fieldLink own index C n d).before a0 Z = true)
    {ns : List (String × String)} {vs : List Value} (hi : its[i]? = some (own_obj Z C ns vs)) (j : Nat) (hj : ns[j]? = some (n, d)) {v v' old : Value} (hv : vs[j]? = some old) (ap : own_apart Z C ns)
    (La : (Cond.lays C C n d).before a0 Z = true ∨ ((Cond.laysFinal C C n d).before a0 Z = true ∧ own = C ∧ meth.name = "<init>")) (wi : (Cond.instantiable C kk).before a0 Z = true) (hty : parseFieldDescriptor d = some ty) (hn : narrow ty v = v') (hf : fits ty v' = true)
    (hd : decode c.code pc = .ok (.putfield index, 3)) {its2 : List (Cell → Prop)} (h2 : its.set i (own_obj Z C ns (vs.set j v')) = its2)
    (k : ∀ T', own_at p l e R s m args below meth c n0 T' cells slots its2 → own_go p e R s below n0 Q (T'.setTop (mkF m (pc + 3) Ls stk))) :
    own_go p e R s below n0 Q (T.setTop (mkF m pc Ls (v :: .ref (n0 + i) :: stk))) := by
  obtain ⟨L, X, N, H⟩ := A
  obtain ⟨cl, g1, g2⟩ := H.2 i _ hi
  obtain ⟨T', h', X', e', W, st⟩ := putFN X hx hZ hown w Via.refl rfl ((g2 _ _ g1).2 j _ old hj hv) (g2 _ _ g1).1 La wi hty hn hf (g := mkF m pc Ls (v :: .ref (n0 + i) :: stk)) rfl rfl hd
  have N' := Fr.snoc X' N (Nat.le_add_right n0 i)
  have W2 := W
  obtain ⟨cl2, w1, w2, w3, -⟩ := W2
  refine own_by st (k T' ⟨_, X', N', ?_⟩)
  rw [e', ← h2]
  exact H.wr hi W fun cl3 q1 q2 => by
    cases w1.symm.trans q1
    exact q2.set ap hj hv w3 w2
theorem own_ia.arr {ty : FieldType} {xs : List Int32} {cl : Cell} (O : own_ia Z ty xs cl) {a : Addr} (hc : h[a]? = some cl) : Arr Z h a cl ty := ⟨hc, O.2.2.1, O.2.2.2.1⟩
theorem own_ia.inb {ty : FieldType} {xs : List Int32} {cl : Cell} (O : own_ia Z ty xs cl) {j : Int32} {x : Int32} (hj : ¬ j < 0 ∧ xs[j.toNatClampNeg]? = some x) : ¬ (j < 0 ∨ cl.slots.size ≤ j.toNatClampNeg) ∧ cl.slots[j.toNatClampNeg]? = some (.int x) := by
  have hl := (List.getElem?_eq_some_iff.mp hj.2).1
  refine ⟨fun q => q.elim hj.1 fun q2 => ?_, ?_⟩
  · rw [O.2.1] at q2; simp at q2; omega
  · rw [O.2.1]; simp [hj.2]
theorem own_la.inb {xs : List Int64} {cl : Cell} (O : own_la Z xs cl) {j : Int32} {x : Int64} (hj : ¬ j < 0 ∧ xs[j.toNatClampNeg]? = some x) : ¬ (j < 0 ∨ cl.slots.size ≤ j.toNatClampNeg) ∧ cl.slots[j.toNatClampNeg]? = some (.long x) := by
  have hl := (List.getElem?_eq_some_iff.mp hj.2).1
  refine ⟨fun q => q.elim hj.1 fun q2 => ?_, ?_⟩
  · rw [O.2.1] at q2; simp at q2; omega
  · rw [O.2.1]; simp [hj.2]
theorem own_ia.set {ty : FieldType} {xs : List Int32} {cl : Cell} (O : own_ia Z ty xs cl) (q : Nat) {x : Int32} (hf : fits ty (.int x) = true) : own_ia Z ty (xs.set q x) (cl.setSlot q (.int x)) := by
  refine ⟨by rw [List.length_set]; exact O.1, ?_, O.2.2.1, O.2.2.2.1, fun y hy => ?_, O.2.2.2.2.2⟩
  · rw [Cell.setSlot]; show cl.slots.setIfInBounds q _ = _
    rw [O.2.1, List.setIfInBounds_toArray, List.map_set]
  · rcases List.mem_or_eq_of_mem_set hy with q | rfl
    · exact O.2.2.2.2.1 y q
    · exact hf
theorem own_la.set {xs : List Int64} {cl : Cell} (O : own_la Z xs cl) (q : Nat) {x : Int64} : own_la Z (xs.set q x) (cl.setSlot q (.long x)) := by
  refine ⟨by rw [List.length_set]; exact O.1, ?_, O.2.2.1, O.2.2.2⟩
  rw [Cell.setSlot]; show cl.slots.setIfInBounds q _ = _
  rw [O.2.1, List.setIfInBounds_toArray, List.map_set]
theorem own_iaload (A : own_at p l e R s m args below meth c n0 T cells slots its) (hx : p.tables.exec = Jvm.exec) (hZ : Z.Warmed39 s.vm) {i : Nat} {xs : List Int32} (hi : its[i]? = some (own_ia Z .int xs)) {j x : Int32} (hj : ¬ j < 0 ∧ xs[j.toNatClampNeg]? = some x) (hd : decode c.code pc = .ok (.iaload, 1))
    (k : own_go p e R s below n0 Q (T.setTop (mkF m (pc + 1) Ls (.int x :: stk)))) : own_go p e R s below n0 Q (T.setTop (mkF m pc Ls (.int j :: .ref (n0 + i) :: stk))) := by
  obtain ⟨L, X, N, H⟩ := A
  obtain ⟨cl, g1, g2⟩ := H.2 i _ hi
  exact own_by (fun t k => X.iaload hx g1 (State.isArrayOf_alike hZ.alike g2.2.2.1) g2.2.2.2.1 (g2.inb hj).1 (g2.inb hj).2 (g := mkF m pc Ls (.int j :: .ref (n0 + i) :: stk)) rfl rfl hd t k) k
theorem own_caload (A : own_at p l e R s m args below meth c n0 T cells slots its) (hx : p.tables.exec = Jvm.exec) (hZ : Z.Warmed39 s.vm) {i : Nat} {xs : List Int32} (hi : its[i]? = some (own_ia Z .char xs)) {j x : Int32} (hj : ¬ j < 0 ∧ xs[j.toNatClampNeg]? = some x) (hd : decode c.code pc = .ok (.caload, 1))
    (k : own_go p e R s below n0 Q (T.setTop (mkF m (pc + 1) Ls (.int x :: stk)))) : own_go p e R s below n0 Q (T.setTop (mkF m pc Ls (.int j :: .ref (n0 + i) :: stk))) := by
  obtain ⟨L, X, N, H⟩ := A
  obtain ⟨cl, g1, g2⟩ := H.2 i _ hi
  exact own_by (fun t k => X.caload hx g1 (State.isArrayOf_alike hZ.alike g2.2.2.1) g2.2.2.2.1 (g2.inb hj).1 (g2.inb hj).2 (g := mkF m pc Ls (.int j :: .ref (n0 + i) :: stk)) rfl rfl hd t k) k
theorem own_baload (A : own_at p l e R s m args below meth c n0 T cells slots its) (hx : p.tables.exec = Jvm.exec) (hZ : Z.Warmed39 s.vm) {i : Nat} {xs : List Int32} (hi : its[i]? = some (own_ia Z .byte xs)) {j x : Int32} (hj : ¬ j < 0 ∧ xs[j.toNatClampNeg]? = some x) (hd : decode c.code pc = .ok (.baload, 1))
    (k : own_go p e R s below n0 Q (T.setTop (mkF m (pc + 1) Ls (.int x :: stk)))) : own_go p e R s below n0 Q (T.setTop (mkF m pc Ls (.int j :: .ref (n0 + i) :: stk))) := by
  obtain ⟨L, X, N, H⟩ := A
  obtain ⟨cl, g1, g2⟩ := H.2 i _ hi
  exact own_by (fun t k => X.baloadBytes hx g1 (State.isArrayOf_alike hZ.alike g2.2.2.1) g2.2.2.2.1 (g2.inb hj).1 (g2.inb hj).2 (g := mkF m pc Ls (.int j :: .ref (n0 + i) :: stk)) rfl rfl hd t k) k
theorem own_laload (A : own_at p l e R s m args below meth c n0 T cells slots its) (hx : p.tables.exec = Jvm.exec) (hZ : Z.Warmed39 s.vm) {i : Nat} {xs : List Int64} (hi : its[i]? = some (own_la Z xs)) {j : Int32} {x : Int64} (hj : ¬ j < 0 ∧ xs[j.toNatClampNeg]? = some x) (hd : decode c.code pc = .ok (.laload, 1))
    (k : own_go p e R s below n0 Q (T.setTop (mkF m (pc + 1) Ls (.long x :: stk)))) : own_go p e R s below n0 Q (T.setTop (mkF m pc Ls (.int j :: .ref (n0 + i) :: stk))) := by
  obtain ⟨L, X, N, H⟩ := A
  obtain ⟨cl, g1, g2⟩ := H.2 i _ hi
  exact own_by (fun t k => X.laload hx g1 (State.isArrayOf_alike hZ.alike g2.2.2.1) g2.2.2.2 (g2.inb hj).1 (g2.inb hj).2 (g := mkF m pc Ls (.int j :: .ref (n0 + i) :: stk)) rfl rfl hd t k) k
theorem own_at.wrote (N : Fr n0 locs) (H : own_hp n0 h its) {T' : State} {i sl : Nat} {v : Value} {P P' : Cell → Prop} (X' : Stand p l e R s m args below meth c T' (locs ++ [⟨n0 + i, sl⟩]) cells slots) (e' : T'.heap = h') (hi : its[i]? = some P) (W : Wr h h' (n0 + i) sl v) (hP : ∀ cl, h[n0 + i]? = some cl → P cl → P' (cl.setSlot sl v)) : own_at p l e R s m args below meth c n0 T' cells slots (its.set i P') :=
  ⟨_, X', Fr.snoc X' N (Nat.le_add_right n0 i), by rw [e']; exact H.wr hi W hP⟩
theorem own_ib {xs : List Int32} {ty : FieldType} {cl : Cell} (O : own_ia Z ty xs cl) {j : Int32} {q : Nat} (hj : ¬ j < 0 ∧ j.toNatClampNeg = q ∧ q < xs.length) : ¬ (j < 0 ∨ cl.slots.size ≤ j.toNatClampNeg) := by
  obtain ⟨h1, rfl, h3⟩ := hj
  refine fun z => z.elim h1 fun z => ?_
  rw [O.2.1] at z; simp at z; omega
theorem own_iastore (A : own_at p l e R s m args below meth c n0 T cells slots its) (hx : p.tables.exec = Jvm.exec) (hZ : Z.Warmed39 s.vm) {i : Nat} {xs : List Int32} (hi : its[i]? = some (own_ia Z .int xs)) {j x : Int32} (q : Nat) (hj : ¬ j < 0 ∧ j.toNatClampNeg = q ∧ q < xs.length) (hd : decode c.code pc = .ok (.iastore, 1)) {its2 : List (Cell → Prop)} (h2 : its.set i (own_ia Z .int (xs.set q x)) = its2)
    (k : ∀ T', own_at p l e R s m args below meth c n0 T' cells slots its2 → own_go p e R s below n0 Q (T'.setTop (mkF m (pc + 1) Ls stk))) : own_go p e R s below n0 Q (T.setTop (mkF m pc Ls (.int x :: .int j :: .ref (n0 + i) :: stk))) := by
  obtain ⟨L, X, N, H⟩ := A
  obtain ⟨cl, g1, g2⟩ := H.2 i _ hi
  obtain ⟨T', h', X', e', W, st⟩ := stI X hx hZ rfl (g2.arr g1) (own_ib g2 hj) (g := mkF m pc Ls (.int x :: .int j :: .ref (n0 + i) :: stk)) rfl rfl hd
  obtain ⟨j1, rfl, j3⟩ := hj
  exact own_by st (k T' (h2 ▸ own_at.wrote N H X' e' hi W fun cl _ O => O.set _ rfl))
theorem own_castore (A : own_at p l e R s m args below meth c n0 T cells slots its) (hx : p.tables.exec = Jvm.exec) (hZ : Z.Warmed39 s.vm) {i : Nat} {xs : List Int32} (hi : its[i]? = some (own_ia Z .char xs)) {j x : Int32} (q : Nat) (hj : ¬ j < 0 ∧ j.toNatClampNeg = q ∧ q < xs.length) (hd : decode c.code pc = .ok (.castore, 1)) {its2 : List (Cell → Prop)} (h2 : its.set i (own_ia Z .char (xs.set q (nar .char x))) = its2)
    (k : ∀ T', own_at p l e R s m args below meth c n0 T' cells slots its2 → own_go p e R s below n0 Q (T'.setTop (mkF m (pc + 1) Ls stk))) : own_go p e R s below n0 Q (T.setTop (mkF m pc Ls (.int x :: .int j :: .ref (n0 + i) :: stk))) := by
  obtain ⟨L, X, N, H⟩ := A
  obtain ⟨cl, g1, g2⟩ := H.2 i _ hi
  obtain ⟨T', h', X', e', W, st⟩ := stC X hx hZ rfl (g2.arr g1) (own_ib g2 hj) (g := mkF m pc Ls (.int x :: .int j :: .ref (n0 + i) :: stk)) rfl rfl hd
  obtain ⟨j1, rfl, j3⟩ := hj
  exact own_by st (k T' (h2 ▸ own_at.wrote N H X' e' hi W fun cl _ O => O.set _ (fits_nar_char x)))
theorem own_bastore (A : own_at p l e R s m args below meth c n0 T cells slots its) (hx : p.tables.exec = Jvm.exec) (hZ : Z.Warmed39 s.vm) {i : Nat} {xs : List Int32} (hi : its[i]? = some (own_ia Z .byte xs)) {j x : Int32} (q : Nat) (hj : ¬ j < 0 ∧ j.toNatClampNeg = q ∧ q < xs.length) (hd : decode c.code pc = .ok (.bastore, 1)) {its2 : List (Cell → Prop)} (h2 : its.set i (own_ia Z .byte (xs.set q (nar .byte x))) = its2)
    (k : ∀ T', own_at p l e R s m args below meth c n0 T' cells slots its2 → own_go p e R s below n0 Q (T'.setTop (mkF m (pc + 1) Ls stk))) : own_go p e R s below n0 Q (T.setTop (mkF m pc Ls (.int x :: .int j :: .ref (n0 + i) :: stk))) := by
  obtain ⟨L, X, N, H⟩ := A
  obtain ⟨cl, g1, g2⟩ := H.2 i _ hi
  obtain ⟨T', h', X', e', W, st⟩ := stB X hx hZ rfl (g2.arr g1) (own_ib g2 hj) (g := mkF m pc Ls (.int x :: .int j :: .ref (n0 + i) :: stk)) rfl rfl hd
  obtain ⟨j1, rfl, j3⟩ := hj
  exact own_by st (k T' (h2 ▸ own_at.wrote N H X' e' hi W fun cl _ O => O.set _ (fits_nar_byte x)))
theorem own_lastore (A : own_at p l e R s m args below meth c n0 T cells slots its) (hx : p.tables.exec = Jvm.exec) (hZ : Z.Warmed39 s.vm) {i : Nat} {xs : List Int64} (hi : its[i]? = some (own_la Z xs)) {j : Int32} {x : Int64} (q : Nat) (hj : ¬ j < 0 ∧ j.toNatClampNeg = q ∧ q < xs.length) (hd : decode c.code pc = .ok (.lastore, 1)) {its2 : List (Cell → Prop)} (h2 : its.set i (own_la Z (xs.set q x)) = its2)
    (k : ∀ T', own_at p l e R s m args below meth c n0 T' cells slots its2 → own_go p e R s below n0 Q (T'.setTop (mkF m (pc + 1) Ls stk))) : own_go p e R s below n0 Q (T.setTop (mkF m pc Ls (.long x :: .int j :: .ref (n0 + i) :: stk))) := by
  obtain ⟨L, X, N, H⟩ := A
  obtain ⟨cl, g1, g2⟩ := H.2 i _ hi
  obtain ⟨j1, rfl, j3⟩ := hj
  have hb : ¬ (j < 0 ∨ cl.slots.size ≤ j.toNatClampNeg) := fun z => z.elim j1 fun z => by rw [g2.2.1] at z; simp at z; omega
  obtain ⟨T', h', X', e', W, st⟩ := stJ X hx hZ rfl (⟨g1, g2.2.2.1, g2.2.2.2⟩ : Arr Z T.heap (n0 + i) cl .long) hb (g := mkF m pc Ls (.long x :: .int j :: .ref (n0 + i) :: stk)) rfl rfl hd
  exact own_by st (k T' (h2 ▸ own_at.wrote N H X' e' hi W fun cl _ O => O.set _))
theorem own_len (A : own_at p l e R s m args below meth c n0 T cells slots its) (hx : p.tables.exec = Jvm.exec) (hZ : Z.Warmed39 s.vm) {i : Nat} {ty : FieldType} {xs : List Int32} (hi : its[i]? = some (own_ia Z ty xs)) {z : Int32} (hz : xs.length.toInt32 = z) (hd : decode c.code pc = .ok (.arraylength, 1))
    (k : own_go p e R s below n0 Q (T.setTop (mkF m (pc + 1) Ls (.int z :: stk)))) : own_go p e R s below n0 Q (T.setTop (mkF m pc Ls (.ref (n0 + i) :: stk))) := by
  obtain ⟨L, X, N, H⟩ := A
  obtain ⟨cl, g1, g2⟩ := H.2 i _ hi
  have q : cl.slots.size.toInt32 = z := by rw [g2.2.1]; simpa using hz
  subst q
  exact own_by (fun t k => X.arraylength hx g1 (State.isArrayOf_alike hZ.alike g2.2.2.1) (g := mkF m pc Ls (.ref (n0 + i) :: stk)) rfl rfl hd t k) k
theorem own_lenL (A : own_at p l e R s m args below meth c n0 T cells slots its) (hx : p.tables.exec = Jvm.exec) (hZ : Z.Warmed39 s.vm) {i : Nat} {xs : List Int64} (hi : its[i]? = some (own_la Z xs)) {z : Int32} (hz : xs.length.toInt32 = z) (hd : decode c.code pc = .ok (.arraylength, 1))
    (k : own_go p e R s below n0 Q (T.setTop (mkF m (pc + 1) Ls (.int z :: stk)))) : own_go p e R s below n0 Q (T.setTop (mkF m pc Ls (.ref (n0 + i) :: stk))) := by
  obtain ⟨L, X, N, H⟩ := A
  obtain ⟨cl, g1, g2⟩ := H.2 i _ hi
  have q : cl.slots.size.toInt32 = z := by rw [g2.2.1]; simpa using hz
  subst q
  exact own_by (fun t k => X.arraylength hx g1 (State.isArrayOf_alike hZ.alike g2.2.2.1) (g := mkF m pc Ls (.ref (n0 + i) :: stk)) rfl rfl hd t k) k
theorem own_ldcI (A : own_at p l e R s m args below meth c n0 T cells slots its) (hx : p.tables.exec = Jvm.exec) (hZ : Z.Warmed39 s.vm) (hown : s.vm.findClass own = some m.cls) {index : Nat} {v : Int32} (w : (Cond.constant own index v).before a0 Z = true) (hd : decode c.code pc = .ok (.ldc index, 2))
    (k : own_go p e R s below n0 Q (T.setTop (mkF m (pc + 2) Ls (.int v :: stk)))) : own_go p e R s below n0 Q (T.setTop (mkF m pc Ls stk)) := by
  obtain ⟨L, X, N, H⟩ := A
  exact own_by (X.ldcInt hx hown (mvT hZ w) (g := mkF m pc Ls stk) rfl hd) k
theorem own_ldcJ (A : own_at p l e R s m args below meth c n0 T cells slots its) (hx : p.tables.exec = Jvm.exec) (hZ : Z.Warmed39 s.vm) (hown : s.vm.findClass own = some m.cls) {index : Nat} {v : Int64} (w : (Cond.constantLong own index v).before a0 Z = true) (hd : decode c.code pc = .ok (.ldc2_w index, 3))
    (k : own_go p e R s below n0 Q (T.setTop (mkF m (pc + 3) Ls (.long v :: stk)))) : own_go p e R s below n0 Q (T.setTop (mkF m pc Ls stk)) := by
  obtain ⟨L, X, N, H⟩ := A
  exact own_by (X.ldc2Long hx hown (mvT hZ w) (g := mkF m pc Ls stk) rfl hd) k
theorem own_irem (A : own_at p l e R s m args below meth c n0 T cells slots its) (hx : p.tables.exec = Jvm.exec) {x y : Int32} (hy : y ≠ 0) (hd : decode c.code pc = .ok (.irem, 1))
    (k : own_go p e R s below n0 Q (T.setTop (mkF m (pc + 1) Ls (.int (x % y) :: stk)))) : own_go p e R s below n0 Q (T.setTop (mkF m pc Ls (.int y :: .int x :: stk))) := by
  obtain ⟨L, X, N, H⟩ := A
  exact own_by (fun t k => iremM X hx (g := mkF m pc Ls (.int y :: .int x :: stk)) rfl hd rfl hy k) k
theorem own_lrem (A : own_at p l e R s m args below meth c n0 T cells slots its) (hx : p.tables.exec = Jvm.exec) {x y : Int64} (hy : y ≠ 0) (hd : decode c.code pc = .ok (.lrem, 1))
    (k : own_go p e R s below n0 Q (T.setTop (mkF m (pc + 1) Ls (.long (x % y) :: stk)))) : own_go p e R s below n0 Q (T.setTop (mkF m pc Ls (.long y :: .long x :: stk))) := by
  rw [← lrem_mod] at k
  exact own_by (fun t k => XS.lrem A.here hx (g := mkF m pc Ls (.long y :: .long x :: stk)) rfl hd rfl hy k) k
theorem own_initO (A : own_at p l e R s m args below meth c n0 T cells slots its) (hx : p.tables.exec = Jvm.exec) (hZ : Z.Warmed39 s.vm) (hown : s.vm.findClass own = some m.cls) {idx : Nat} (w1 : (Cond.methodLink own idx Lib.objectInit).before a0 Z = true) (w2 : (Cond.instanceMethod Lib.objectInit).before a0 Z = true) (w3 : (Cond.code Lib.objectInit object_method_1_code 1 none).before a0 Z = true)
    (hml : Ls.size = c.maxLocals) {a : Addr} (hd : decode c.code pc = .ok (.invokespecial idx, 3)) (hf : 1 ≤ R.frames) {W : Nat} (hW : 2 * 0 + (stk.map fun v => v.category).sum ≤ W) (hl : W + 12 ≤ R.locals)
    (k : ∀ T', own_at p l e R s m args below meth c n0 T' cells slots its → own_go p e R s below n0 Q (T'.setTop (mkF m (pc + 3) Ls stk))) : own_go p e R s below n0 Q (T.setTop (mkF m pc Ls (.ref a :: stk))) := by
  obtain ⟨L, X, N, H⟩ := A
  obtain ⟨T', X', e', st⟩ := initO X hx hZ hown w1 w2 w3 rfl (g := mkF m pc Ls (.ref a :: stk)) rfl hml rfl hd hf hW hl
  exact own_by st (k T' ⟨L, X', N, by rw [e']; exact H⟩)
/-! the end -/
theorem own_ret (A : own_at p l e R s m args below meth c n0 T cells slots its) (hx : p.tables.exec = Jvm.exec) (hlk : meth.locks = false) {w : Value} {t : FieldType} {i : Instr} (hret : meth.sig.returnType = some t) (hn : narrow t w = w)
    (hi : (i = .ireturn ∧ (t = .int ∨ t = .boolean ∨ t = .byte ∨ t = .char ∨ t = .short) ∧ ∃ z, w = .int z) ∨ (i = .lreturn ∧ t = .long ∧ ∃ z, w = .long z) ∨ (i = .dreturn ∧ t = .double ∧ ∃ z, w = .double z) ∨ (i = .freturn ∧ t = .float ∧ ∃ z, w = .float z) ∨ (i = .areturn ∧ t.isReference = true ∧ w.isRef = true))
    (hd : decode c.code pc = .ok (i, 1)) (hc : cells ≤ R.cells) (hs : slots ≤ R.slots) (hQ : Q (some w) its) : own_go p e R s below n0 Q (T.setTop (mkF m pc Ls (w :: stk))) := by
  obtain ⟨L, X, N, H⟩ := A
  obtain ⟨fs, hr, hrun, hended, hW, hsame⟩ := X.leave (v := some w) (fun h => by rw [hret] at h; cases h) hlk
  exact ⟨_, _, _, _, retOut X hx hret hn hi hd hr, hrun, hended, hQ, N, H, hW, hsame.mono hc hs⟩
theorem own_retI (A : own_at p l e R s m args below meth c n0 T cells slots its) (hx : p.tables.exec = Jvm.exec) (hlk : meth.locks = false) {w : Int32} (hret : meth.sig.returnType = some .int) (hd : decode c.code pc = .ok (.ireturn, 1)) (hc : cells ≤ R.cells) (hs : slots ≤ R.slots) (hQ : Q (some (.int w)) its) : own_go p e R s below n0 Q (T.setTop (mkF m pc Ls (.int w :: stk))) :=
  own_ret A hx hlk hret rfl (Or.inl ⟨rfl, Or.inl rfl, w, rfl⟩) hd hc hs hQ
theorem own_retJ (A : own_at p l e R s m args below meth c n0 T cells slots its) (hx : p.tables.exec = Jvm.exec) (hlk : meth.locks = false) {w : Int64} (hret : meth.sig.returnType = some .long) (hd : decode c.code pc = .ok (.lreturn, 1)) (hc : cells ≤ R.cells) (hs : slots ≤ R.slots) (hQ : Q (some (.long w)) its) : own_go p e R s below n0 Q (T.setTop (mkF m pc Ls (.long w :: stk))) :=
  own_ret A hx hlk hret rfl (Or.inr (Or.inl ⟨rfl, rfl, w, rfl⟩)) hd hc hs hQ
theorem own_retA (A : own_at p l e R s m args below meth c n0 T cells slots its) (hx : p.tables.exec = Jvm.exec) (hlk : meth.locks = false) {a : Addr} {t : FieldType} (hret : meth.sig.returnType = some t) (hn : narrow t (.ref a) = .ref a) (ht : t.isReference = true) (hd : decode c.code pc = .ok (.areturn, 1)) (hc : cells ≤ R.cells) (hs : slots ≤ R.slots) (hQ : Q (some (.ref a)) its) : own_go p e R s below n0 Q (T.setTop (mkF m pc Ls (.ref a :: stk))) :=
  own_ret A hx hlk hret hn (Or.inr (Or.inr (Or.inr (Or.inr ⟨rfl, ht, rfl⟩)))) hd hc hs hQ
theorem own_retN (A : own_at p l e R s m args below meth c n0 T cells slots its) (hx : p.tables.exec = Jvm.exec) (hlk : meth.locks = false) {w : Int32} {t : FieldType} (ht : t = .boolean ∨ t = .byte ∨ t = .char ∨ t = .short) (hret : meth.sig.returnType = some t) (hd : decode c.code pc = .ok (.ireturn, 1)) (hc : cells ≤ R.cells) (hs : slots ≤ R.slots) (hQ : Q (some (.int (nar t w))) its) : own_go p e R s below n0 Q (T.setTop (mkF m pc Ls (.int w :: stk))) := by
  obtain ⟨L, X, N, H⟩ := A
  obtain ⟨fs, hr, hrun, hended, hW, hsame⟩ := X.leave (v := some (.int (nar t w))) (fun h => by rw [hret] at h; cases h) hlk
  exact ⟨_, _, _, _, retN X hx hret ht hd hr, hrun, hended, hQ, N, H, hW, hsame.mono hc hs⟩
theorem own_retV (A : own_at p l e R s m args below meth c n0 T cells slots its) (hx : p.tables.exec = Jvm.exec) (hlk : meth.locks = false) (hret : meth.sig.returnType = none) (hd : decode c.code pc = .ok (.return_, 1)) (hc : cells ≤ R.cells) (hs : slots ≤ R.slots) (hQ : Q none its) : own_go p e R s below n0 Q (T.setTop (mkF m pc Ls [])) := by
  obtain ⟨L, X, N, H⟩ := A
  obtain ⟨fs, hr, hrun, hended, hW, hsame⟩ := X.leave (v := none) (fun _ => rfl) hlk
  exact ⟨_, _, _, _, X.returnOut hx hret hd hr, hrun, hended, hQ, N, H, hW, hsame.mono hc hs⟩
/-! contracts -/
/-- a method's contract: with these arguments, over a heap whose new part is its, it returns as Q says -/
def own_met (l : Launch) (Z : State) (n0 : Nat) (y : MethodName) (bytes : ByteArray) (maxL : Nat) (ret : Option FieldType) (rm : Room) (as : Array Value) (its : List (Cell → Prop)) (Q : Option Value → List (Cell → Prop) → Prop) : Prop :=
  ∀ (h0 : Heap) (ws : List Jvm.Cond), own_hp n0 h0 its → MetFree l y (head1 (Jvm.Cond.code y bytes maxL ret :: ws) rm) (fun a U => a = as ∧ Z.Warmed39 U.vm ∧ U.heap = h0) (fun _ _ _ _ _ => True) (fun _ U o U' => ∃ v L, o = .returned v ∧ (Fr n0 L ∧ ∃ its', Q v its' ∧ own_hp n0 U'.heap its') ∧ FrameEnd U o U' L rm.cells rm.slots)
variable {y z : MethodName} {bytes : ByteArray} {maxL : Nat} {ret : Option FieldType} {rm : Room} {as : Array Value} {Q' : Option Value → List (Cell → Prop) → Prop}
theorem own_met.of (hpn : plainFor y = true)
    (body : ∀ (p : Program) (e : Env) (s : State) (m : MethodId) (below : List Frame) (meth : Method) (c : Code) (T : State), p.tables.exec = Jvm.exec → c.code = bytes → c.maxLocals = maxL → meth.sig.returnType = ret → meth.locks = false → Z.Warmed39 s.vm → s.vm.findClass y.cls = some m.cls → meth.name = y.name → own_at p l e rm s m as below meth c n0 T 0 0 its → own_go p e rm s below n0 Q (T.setTop (entryFrame m as maxL))) :
    own_met l Z n0 y bytes maxL ret rm as its Q := by
  intro h0 ws H
  refine MetFree.of_bodySF hpn hisR ?_
  intro p e s m args below meth c s₁ Bd hml0 hP hK
  obtain ⟨rfl, hZ, hh⟩ := hP
  have X0 : Stand p l e rm s m args below meth c s₁ [] 0 0 := Stand.of_body Bd
  have e0 : s₁.heap = h0 := by rw [← hh, Bd.state]; rfl
  obtain ⟨t, v, L, its', h1, h2, h3, h4, h5, h6, h7, h8⟩ := body p e s m below meth c s₁ Bd.exec Bd.bytes hml0 Bd.returns (BodyLoose.notSynchronized Bd) hZ (findClass_of_methodNamed Bd.named) (name_of_methodNamed Bd.named Bd.method).1 ⟨[], X0, Fr.nil n0, by rw [e0]; exact H⟩
  exact ⟨t, _, h1, h2, h3, v, L, rfl, ⟨h5, its', h4, h6⟩, ⟨_, rfl⟩, h7, h8⟩
theorem own_post {A B : Pt} {rm : Room} {v : Option Value} (hP : ∃ L, (Fr n0 L ∧ ∃ its', Q' v its' ∧ own_hp n0 B.U.heap its') ∧ B.locs = A.locs ++ L ∧ B.cells = A.cells + rm.cells ∧ B.slots = A.slots + rm.slots) (X : Stand p l e R s m args below meth c B.U B.locs B.cells B.slots) (N : Fr n0 A.locs) :
    ∃ its', Q' v its' ∧ own_at p l e R s m args below meth c n0 B.U (A.cells + rm.cells) (A.slots + rm.slots) its' := by
  obtain ⟨L, ⟨h1, its', h2, h3⟩, h4, h5, h6⟩ := hP
  rw [h4, h5, h6] at X
  exact ⟨its', h2, _, X, N.app h1, h3⟩
theorem own_callS (A : own_at p l e R s m args below meth c n0 T cells slots its) (hx : p.tables.exec = Jvm.exec) (hZ : Z.Warmed39 s.vm) (hown : s.vm.findClass own = some m.cls) {index : Nat} (w1 : (Cond.methodLink own index y).before a0 Z = true) (w2 : (Cond.static y).before a0 Z = true) (w3 : (Cond.initialized y.cls).before a0 Z = true) (w4 : (Cond.code y bytes maxL ret).before a0 Z = true)
    (hy : y.cls ≠ "java/lang/invoke/MethodHandle" ∧ y.cls ≠ "java/lang/invoke/VarHandle") (M : own_met l Z n0 y bytes maxL ret rm as its Q') (hml : Ls.size = c.maxLocals) (argsL : List Value) (has : argsL.toArray = as) (hstk : stk = argsL.reverse ++ rest) {ps : List FieldType} {r : Option FieldType} (pd : parseMethodDescriptor y.desc = some ⟨ps, r⟩) (hlen : argsL.length = ps.length)
    {W : Nat} (hW : 2 * 0 + (rest.map fun v => v.category).sum ≤ W) (hd : decode c.code pc = .ok (.invokestatic index, 3)) (hf : rm.frames + 1 ≤ R.frames) (hl : W + (maxL + 11) + rm.locals ≤ R.locals) (hc : cells + rm.cells ≤ R.cells) (hs : slots + rm.slots ≤ R.slots)
    (k : ∀ (v : Option Value) (its' : List (Cell → Prop)) (T' : State), Q' v its' → own_at p l e R s m args below meth c n0 T' (cells + rm.cells) (slots + rm.slots) its' → own_go p e R s below n0 Q (T'.setTop (mkF m (pc + 3) Ls (v.toList ++ rest)))) :
    own_go p e R s below n0 Q (T.setTop (mkF m pc Ls stk)) := by
  obtain ⟨L, X, N, H⟩ := A
  subst hstk has
  obtain ⟨v, vm1, B, -, XB, hP, st⟩ := Jvm.LawKit.callS X hx (y := y) hown (mvT hZ w1) (mvT hZ w2) (mvT hZ w3) (mvT hZ w4) hy (backOf (W := W) (Q := fun v h L => Fr n0 L ∧ ∃ its', Q' v its' ∧ own_hp n0 h its') (M T.heap [] H) hZ w4 w3 hf hl) (g := mkF m pc Ls (argsL.reverse ++ rest)) rfl hml (argsL := argsL) (rest := rest) (lenOf pd hlen) rfl hW hd (fun _ _ => ⟨rfl, rfl, hc, hs⟩)
  obtain ⟨its', q1, q2⟩ := own_post hP XB N
  exact own_by st (k v its' B.U q1 q2)
theorem own_tr {u u' : State} (st : Steps p.tables e below u u') (k : own_go p e R s below n0 Q u') : own_go p e R s below n0 Q u := own_by (fun _ q => st.trans q) k
theorem own_callC (A : own_at p l e R s m args below meth c n0 T cells slots its) (hx : p.tables.exec = Jvm.exec) (hZ : Z.Warmed39 s.vm) (hown : s.vm.findClass own = some m.cls) {index : Nat} (hy1 : y.name = "<init>") (w1 : (Cond.methodLink own index y).before a0 Z = true) (w2 : (Cond.instanceMethod y).before a0 Z = true) (w3 : (Cond.initialized y.cls).before a0 Z = true) (w4 : (Cond.code y bytes maxL none).before a0 Z = true)
    (hy : y.cls ≠ "java/lang/invoke/MethodHandle" ∧ y.cls ≠ "java/lang/invoke/VarHandle") (M : own_met l Z n0 y bytes maxL none rm as its Q') (hml : Ls.size = c.maxLocals) (a : Addr) (argsL : List Value) (has : (Value.ref a :: argsL).toArray = as) (hstk : stk = argsL.reverse ++ .ref a :: rest) {ps : List FieldType} {r : Option FieldType} (pd : parseMethodDescriptor y.desc = some ⟨ps, r⟩) (hlen : argsL.length = ps.length)
    {W : Nat} (hW : 2 * 0 + (rest.map fun v => v.category).sum ≤ W) (hd : decode c.code pc = .ok (.invokespecial index, 3)) (hf : rm.frames + 1 ≤ R.frames) (hl : W + (maxL + 11) + rm.locals ≤ R.locals) (hc : cells + rm.cells ≤ R.cells) (hs : slots + rm.slots ≤ R.slots)
    (k : ∀ (v : Option Value) (its' : List (Cell → Prop)) (T' : State), Q' v its' → own_at p l e R s m args below meth c n0 T' (cells + rm.cells) (slots + rm.slots) its' → own_go p e R s below n0 Q (T'.setTop (mkF m (pc + 3) Ls (v.toList ++ rest)))) :
    own_go p e R s below n0 Q (T.setTop (mkF m pc Ls stk)) := by
  obtain ⟨L, X, N, H⟩ := A
  subst hstk has
  obtain ⟨v, vm1, B, -, XB, hP, st⟩ := X.specialBack hx (y := y) hy1 hown (mvT hZ w1) (mvT hZ w2) (mvT hZ w4) hy (backOf (W := W) (Q := fun v h L => Fr n0 L ∧ ∃ its', Q' v its' ∧ own_hp n0 h its') (M T.heap [] H) hZ w4 w3 hf hl) (g := mkF m pc Ls (argsL.reverse ++ .ref a :: rest)) rfl hml (Steps.refl _) (a := a) (argsL := argsL) (rest := rest) (lenOf pd hlen) rfl hW hd (fun _ _ => ⟨rfl, rfl, hc, hs⟩)
  obtain ⟨its', q1, q2⟩ := own_post hP XB N
  exact own_tr st (k v its' B.U q1 q2)
theorem own_callV (A : own_at p l e R s m args below meth c n0 T cells slots its) (hx : p.tables.exec = Jvm.exec) (hZ : Z.Warmed39 s.vm) (hown : s.vm.findClass own = some m.cls) {index i : Nat} (w1 : (Cond.methodLink own index y).before a0 Z = true) (w2 : (Cond.declares y).before a0 Z = true) (w3 : (Cond.selects y.cls y y).before a0 Z = true) (w4 : (Cond.instanceMethod y).before a0 Z = true) (w5 : (Cond.initialized y.cls).before a0 Z = true) (w6 : (Cond.code y bytes maxL ret).before a0 Z = true)
    (hy : y.cls ≠ "java/lang/invoke/MethodHandle" ∧ y.cls ≠ "java/lang/invoke/VarHandle") {ns : List (String × String)} {vs : List Value} (hi : its[i]? = some (own_obj Z y.cls ns vs)) (M : own_met l Z n0 y bytes maxL ret rm as its Q') (hml : Ls.size = c.maxLocals) (argsL : List Value) (has : (Value.ref (n0 + i) :: argsL).toArray = as) (hstk : stk = argsL.reverse ++ .ref (n0 + i) :: rest) {ps : List FieldType} {r : Option FieldType} (pd : parseMethodDescriptor y.desc = some ⟨ps, r⟩) (hlen : argsL.length = ps.length)
    {W : Nat} (hW : 2 * 0 + (rest.map fun v => v.category).sum ≤ W) (hd : decode c.code pc = .ok (.invokevirtual index, 3)) (hf : rm.frames + 1 ≤ R.frames) (hl : W + (maxL + 11) + rm.locals ≤ R.locals) (hc : cells + rm.cells ≤ R.cells) (hs : slots + rm.slots ≤ R.slots)
    (k : ∀ (v : Option Value) (its' : List (Cell → Prop)) (T' : State), Q' v its' → own_at p l e R s m args below meth c n0 T' (cells + rm.cells) (slots + rm.slots) its' → own_go p e R s below n0 Q (T'.setTop (mkF m (pc + 3) Ls (v.toList ++ rest)))) :
    own_go p e R s below n0 Q (T.setTop (mkF m pc Ls stk)) := by
  obtain ⟨L, X, N, H⟩ := A
  subst hstk has
  obtain ⟨cl, g1, g2⟩ := H.2 i _ hi
  obtain ⟨cq, kq, q3a, q3b, q3c⟩ := isOf (T := T) hZ rfl (g2 _ _ g1).1
  obtain ⟨v, vm1, B, -, XB, hP, st⟩ := X.virtualBack hx (y := y) (z := y) hown (mvT hZ w1) (mvT hZ w2) (notFace_of_selects (args := #[]) (mvT hZ w3)) (mvT hZ w3) (mvT hZ w4) hy (backOf (W := W) (Q := fun v h L => Fr n0 L ∧ ∃ its', Q' v its' ∧ own_hp n0 h its') (M T.heap [] H) hZ w6 w5 hf hl) q3a q3c (g := mkF m pc Ls (argsL.reverse ++ .ref (n0 + i) :: rest)) rfl hml (Steps.refl _) (argsL := argsL) (rest := rest) (lenOf pd hlen) rfl hW hd (fun _ _ => ⟨rfl, rfl, hc, hs⟩)
  obtain ⟨its', q1, q2⟩ := own_post hP XB N
  exact own_tr st (k v its' B.U q1 q2)
theorem own_callP (A : own_at p l e R s m args below meth c n0 T cells slots its) (hx : p.tables.exec = Jvm.exec) (hZ : Z.Warmed39 s.vm) (hown : s.vm.findClass own = some m.cls) {index i : Nat} (w1 : (Cond.methodLink own index y).before a0 Z = true) (w2 : (Cond.privateMethod y).before a0 Z = true) {kk : Nat} (w3 : (Cond.instantiable y.cls kk).before a0 Z = true) (w4 : (Cond.instanceMethod y).before a0 Z = true) (w5 : (Cond.initialized y.cls).before a0 Z = true) (w6 : (Cond.code y bytes maxL ret).before a0 Z = true)
    (hy : y.cls ≠ "java/lang/invoke/MethodHandle" ∧ y.cls ≠ "java/lang/invoke/VarHandle") {ns : List (String × String)} {vs : List Value} (hi : its[i]? = some (own_obj Z y.cls ns vs)) (M : own_met l Z n0 y bytes maxL ret rm as its Q') (hml : Ls.size = c.maxLocals) (argsL : List Value) (has : (Value.ref (n0 + i) :: argsL).toArray = as) (hstk : stk = argsL.reverse ++ .ref (n0 + i) :: rest) {ps : List FieldType} {r : Option FieldType} (pd : parseMethodDescriptor y.desc = some ⟨ps, r⟩) (hlen : argsL.length = ps.length)
    {W : Nat} (hW : 2 * 0 + (rest.map fun v => v.category).sum ≤ W) (hd : decode c.code pc = .ok (.invokevirtual index, 3)) (hf : rm.frames + 1 ≤ R.frames) (hl : W + (maxL + 11) + rm.locals ≤ R.locals) (hc : cells + rm.cells ≤ R.cells) (hs : slots + rm.slots ≤ R.slots)
    (k : ∀ (v : Option Value) (its' : List (Cell → Prop)) (T' : State), Q' v its' → own_at p l e R s m args below meth c n0 T' (cells + rm.cells) (slots + rm.slots) its' → own_go p e R s below n0 Q (T'.setTop (mkF m (pc + 3) Ls (v.toList ++ rest)))) :
    own_go p e R s below n0 Q (T.setTop (mkF m pc Ls stk)) := by
  obtain ⟨L, X, N, H⟩ := A
  subst hstk has
  obtain ⟨cl, g1, g2⟩ := H.2 i _ hi
  obtain ⟨cq, q3a, q3b⟩ := (g2 _ _ g1).1.cell
  obtain ⟨c1, k1, i1, i2, -, i4, -⟩ := Cond.instantiable_spec (mvT (s := s) (args := args) hZ w3)
  have hpr : s.PrivateAt y := Cond.privateMethod_at (mvP hZ w2 (args := #[]))
  have hsel : (Cond.selects y.cls y y).before args s = true := selects_self_of_private i1 i2 (Bool.or_eq_false_iff.mp i4).1 hpr (mvT hZ w4) hy
  obtain ⟨v, vm1, B, -, XB, hP, st⟩ := X.privateBack hx (y := y) hown (mvT hZ w1) (mvT hZ w4) hsel hpr (mvT hZ w6) hy (backOf (W := W) (Q := fun v h L => Fr n0 L ∧ ∃ its', Q' v its' ∧ own_hp n0 h its') (M T.heap [] H) hZ w6 w5 hf hl) (g := mkF m pc Ls (argsL.reverse ++ .ref (n0 + i) :: rest)) rfl hml (Steps.refl _) (a := n0 + i) q3a q3b (argsL := argsL) (rest := rest) (lenOf pd hlen) rfl hW hd (fun _ _ => ⟨rfl, rfl, hc, hs⟩)
  obtain ⟨its', q1, q2⟩ := own_post hP XB N
  exact own_tr st (k v its' B.U q1 q2)
/-! comparisons of longs -/
theorem own_lc_lt {x y : Int64} (h : x < y) : lcmpW x y < 0 := by rw [lcW]; exact (lc_lt x y).mpr h
theorem own_lc_nlt {x y : Int64} (h : ¬ x < y) : ¬ lcmpW x y < 0 := by rw [lcW]; exact fun q => h ((lc_lt x y).mp q)
theorem own_lc_gt {x y : Int64} (h : y < x) : 0 < lcmpW x y := by rw [lcW]; exact (lc_gt x y).mpr h
theorem own_lc_ngt {x y : Int64} (h : ¬ y < x) : ¬ 0 < lcmpW x y := by rw [lcW]; exact fun q => h ((lc_gt x y).mp q)
theorem own_lc_eq {x y : Int64} (h : x = y) : lcmpW x y = 0 := by subst h; unfold lcmpW; simp
theorem own_lc_ne {x y : Int64} (h : ¬ x = y) : ¬ lcmpW x y = 0 := by
  unfold lcmpW
  (repeat' split) <;> first | decide | (exfalso; exact h (by assumption))
end Own
theorem d_jdk_30_method_1_0 : decode jdk_30_method_1_code 0 = .ok (.aload_n 0, 1) := by decide +kernel
theorem d_jdk_30_method_1_1 : decode jdk_30_method_1_code 1 = .ok (.invokespecial 1, 3) := by decide +kernel
theorem d_jdk_30_method_1_4 : decode jdk_30_method_1_code 4 = .ok (.return_, 1) := by decide +kernel
theorem pf_gR : plainFor (⟨"java/lang/Record", "<init>", "()V"⟩ : MethodName) = true := by first | exact plainFor_of_name (by first | (simp [plainName, overriddenIn]; done) | decide +kernel) | decide +kernel
theorem ef_gR (m : MethodId) (a : Addr) : entryFrame m #[(.ref a)] 1 = (mkF m 0 #[.val (.ref a)] []) := by first | (simp [entryFrame, mkF, argsToLocals, Value.category]; done) | rfl
set_option maxRecDepth 65536 in
set_option maxHeartbeats 40000000 in
theorem gR (l : Launch) (Z : State) (a0 : Array Value) (hw : ∀ d ∈ tables_1, d.before a0 Z = true) (n0 : Nat) (its : List (Cell → Prop)) (a : Addr)  :
    own_met l Z n0 (⟨"java/lang/Record", "<init>", "()V"⟩ : MethodName) jdk_30_method_1_code 1 none ({ frames := 1, cells := 0, slots := 0, locals := 12 } : Room) #[(.ref a)] its (fun v its' => v = none ∧ its' = its) := by
  refine own_met.of pf_gR ?_
  intro p e s m below meth c T0 hx hby hml hret hlk hZ hown hnm A0
  replace hown : s.vm.findClass "java/lang/Record" = some m.cls := hown
  replace hml : c.maxLocals = 1 := hml
  rw [ef_gR m a]
  show own_go _ _ _ _ _ _ _ (T0.setTop (mkF m 0 #[.val (.ref a)] []))
  refine own_by (u' := T0.setTop (mkF m 1 #[.val (.ref a)] [(.ref a)])) (fun _ k => XS.aloadN A0.here hx rfl (own_db hby d_jdk_30_method_1_0) rfl rfl k) ?_
  refine own_initO A0 hx hZ hown (hw _ (List.mem_of_getElem? (i := 11) rfl)) (hw _ (List.mem_of_getElem? (i := 12) rfl)) (hw _ (List.mem_of_getElem? (i := 13) rfl)) (by rw [hml]; rfl) (own_db hby d_jdk_30_method_1_1) (by decide) (W := 0) (by show 2 * 0 + _ ≤ _; exact Nat.le_of_eq rfl) (by decide) ?_
  intro T1 A2
  show own_go _ _ _ _ _ _ _ (T1.setTop (mkF m 4 #[.val (.ref a)] []))
  exact own_retV A2 hx hlk hret (own_db hby d_jdk_30_method_1_4) (by decide) (by decide) ⟨rfl, rfl⟩
def ns_Result : List (String × String) := [("jobs", "J"), ("added", "J"), ("addErrors", "J"), ("addPerS", "J"), ("cancelled", "J"), ("received", "J"), ("duplicates", "J"), ("early", "J"), ("cancelledReceived", "J"), ("lateP50", "J"), ("lateP99", "J"), ("lateMax", "J"), ("addOnly", "Z")]
theorem ap_ns_Result {Z : State} {a0 : Array Value} (hw : ∀ d ∈ tables_1, d.before a0 Z = true) : own_apart Z "com/example/halfpast/halfpast/bench/Result" ns_Result := own_apart_of (a0 := a0) (own_cons ⟨(Or.inr (hw _ (List.mem_of_getElem? (i := 15) rfl))), .long, by decide⟩ (own_cons ⟨(Or.inr (hw _ (List.mem_of_getElem? (i := 17) rfl))), .long, by decide⟩ (own_cons ⟨(Or.inr (hw _ (List.mem_of_getElem? (i := 19) rfl))), .long, by decide⟩ (own_cons ⟨(Or.inr (hw _ (List.mem_of_getElem? (i := 21) rfl))), .long, by decide⟩ (own_cons ⟨(Or.inr (hw _ (List.mem_of_getElem? (i := 23) rfl))), .long, by decide⟩ (own_cons ⟨(Or.inr (hw _ (List.mem_of_getElem? (i := 25) rfl))), .long, by decide⟩ (own_cons ⟨(Or.inr (hw _ (List.mem_of_getElem? (i := 27) rfl))), .long, by decide⟩ (own_cons ⟨(Or.inr (hw _ (List.mem_of_getElem? (i := 29) rfl))), .long, by decide⟩ (own_cons ⟨(Or.inr (hw _ (List.mem_of_getElem? (i := 31) rfl))), .long, by decide⟩ (own_cons ⟨(Or.inr (hw _ (List.mem_of_getElem? (i := 33) rfl))), .long, by decide⟩ (own_cons ⟨(Or.inr (hw _ (List.mem_of_getElem? (i := 35) rfl))), .long, by decide⟩ (own_cons ⟨(Or.inr (hw _ (List.mem_of_getElem? (i := 37) rfl))), .long, by decide⟩ (own_cons ⟨(Or.inr (hw _ (List.mem_of_getElem? (i := 39) rfl))), .boolean, by decide⟩ own_nil))))))))))))) (by decide +kernel)
theorem d_prog_6_method_1_0 : decode prog_6_method_1_code 0 = .ok (.aload_n 0, 1) := by decide +kernel
theorem d_prog_6_method_1_1 : decode prog_6_method_1_code 1 = .ok (.invokespecial 1, 3) := by decide +kernel
theorem pd___V : parseMethodDescriptor "()V" = some ⟨[], none⟩ := by decide +kernel
theorem d_prog_6_method_1_4 : decode prog_6_method_1_code 4 = .ok (.aload_n 0, 1) := by decide +kernel
theorem d_prog_6_method_1_5 : decode prog_6_method_1_code 5 = .ok (.lload_n 1, 1) := by decide +kernel
theorem d_prog_6_method_1_6 : decode prog_6_method_1_code 6 = .ok (.putfield 7, 3) := by decide +kernel
theorem d_prog_6_method_1_9 : decode prog_6_method_1_code 9 = .ok (.aload_n 0, 1) := by decide +kernel
theorem d_prog_6_method_1_10 : decode prog_6_method_1_code 10 = .ok (.lload_n 3, 1) := by decide +kernel
theorem d_prog_6_method_1_11 : decode prog_6_method_1_code 11 = .ok (.putfield 13, 3) := by decide +kernel
theorem d_prog_6_method_1_14 : decode prog_6_method_1_code 14 = .ok (.aload_n 0, 1) := by decide +kernel
theorem d_prog_6_method_1_15 : decode prog_6_method_1_code 15 = .ok (.lload 5, 2) := by decide +kernel
theorem d_prog_6_method_1_17 : decode prog_6_method_1_code 17 = .ok (.putfield 16, 3) := by decide +kernel
theorem d_prog_6_method_1_20 : decode prog_6_method_1_code 20 = .ok (.aload_n 0, 1) := by decide +kernel
theorem d_prog_6_method_1_21 : decode prog_6_method_1_code 21 = .ok (.lload 7, 2) := by decide +kernel
theorem d_prog_6_method_1_23 : decode prog_6_method_1_code 23 = .ok (.putfield 19, 3) := by decide +kernel
theorem d_prog_6_method_1_26 : decode prog_6_method_1_code 26 = .ok (.aload_n 0, 1) := by decide +kernel
theorem d_prog_6_method_1_27 : decode prog_6_method_1_code 27 = .ok (.lload 9, 2) := by decide +kernel
theorem d_prog_6_method_1_29 : decode prog_6_method_1_code 29 = .ok (.putfield 22, 3) := by decide +kernel
theorem d_prog_6_method_1_32 : decode prog_6_method_1_code 32 = .ok (.aload_n 0, 1) := by decide +kernel
theorem d_prog_6_method_1_33 : decode prog_6_method_1_code 33 = .ok (.lload 11, 2) := by decide +kernel
theorem d_prog_6_method_1_35 : decode prog_6_method_1_code 35 = .ok (.putfield 25, 3) := by decide +kernel
theorem d_prog_6_method_1_38 : decode prog_6_method_1_code 38 = .ok (.aload_n 0, 1) := by decide +kernel
theorem d_prog_6_method_1_39 : decode prog_6_method_1_code 39 = .ok (.lload 13, 2) := by decide +kernel
theorem d_prog_6_method_1_41 : decode prog_6_method_1_code 41 = .ok (.putfield 28, 3) := by decide +kernel
theorem d_prog_6_method_1_44 : decode prog_6_method_1_code 44 = .ok (.aload_n 0, 1) := by decide +kernel
theorem d_prog_6_method_1_45 : decode prog_6_method_1_code 45 = .ok (.lload 15, 2) := by decide +kernel
theorem d_prog_6_method_1_47 : decode prog_6_method_1_code 47 = .ok (.putfield 31, 3) := by decide +kernel
theorem d_prog_6_method_1_50 : decode prog_6_method_1_code 50 = .ok (.aload_n 0, 1) := by decide +kernel
theorem d_prog_6_method_1_51 : decode prog_6_method_1_code 51 = .ok (.lload 17, 2) := by decide +kernel
theorem d_prog_6_method_1_53 : decode prog_6_method_1_code 53 = .ok (.putfield 34, 3) := by decide +kernel
theorem d_prog_6_method_1_56 : decode prog_6_method_1_code 56 = .ok (.aload_n 0, 1) := by decide +kernel
theorem d_prog_6_method_1_57 : decode prog_6_method_1_code 57 = .ok (.lload 19, 2) := by decide +kernel
theorem d_prog_6_method_1_59 : decode prog_6_method_1_code 59 = .ok (.putfield 37, 3) := by decide +kernel
theorem d_prog_6_method_1_62 : decode prog_6_method_1_code 62 = .ok (.aload_n 0, 1) := by decide +kernel
theorem d_prog_6_method_1_63 : decode prog_6_method_1_code 63 = .ok (.lload 21, 2) := by decide +kernel
theorem d_prog_6_method_1_65 : decode prog_6_method_1_code 65 = .ok (.putfield 40, 3) := by decide +kernel
theorem d_prog_6_method_1_68 : decode prog_6_method_1_code 68 = .ok (.aload_n 0, 1) := by decide +kernel
theorem d_prog_6_method_1_69 : decode prog_6_method_1_code 69 = .ok (.lload 23, 2) := by decide +kernel
theorem d_prog_6_method_1_71 : decode prog_6_method_1_code 71 = .ok (.putfield 43, 3) := by decide +kernel
theorem d_prog_6_method_1_74 : decode prog_6_method_1_code 74 = .ok (.aload_n 0, 1) := by decide +kernel
theorem d_prog_6_method_1_75 : decode prog_6_method_1_code 75 = .ok (.iload 25, 2) := by decide +kernel
theorem d_prog_6_method_1_77 : decode prog_6_method_1_code 77 = .ok (.putfield 46, 3) := by decide +kernel
theorem d_prog_6_method_1_80 : decode prog_6_method_1_code 80 = .ok (.return_, 1) := by decide +kernel
theorem pf_g1 : plainFor (⟨"com/example/halfpast/halfpast/bench/Result", "<init>", "(JJJJJJJJJJJJZ)V"⟩ : MethodName) = true := by first | exact plainFor_of_name (by first | (simp [plainName, overriddenIn]; done) | decide +kernel) | decide +kernel
theorem ef_g1 (m : MethodId) (i : Nat) (n0 : Nat) (q0 : Int64) (q1 : Int64) (q2 : Int64) (q3 : Int64) (q4 : Int64) (q5 : Int64) (q6 : Int64) (q7 : Int64) (q8 : Int64) (q9 : Int64) (q10 : Int64) (q11 : Int64) (p12 : Int32) : entryFrame m #[(.ref (n0 + i)), (.long q0), (.long q1), (.long q2), (.long q3), (.long q4), (.long q5), (.long q6), (.long q7), (.long q8), (.long q9), (.long q10), (.long q11), (.int p12)] 26 = (mkF m 0 #[.val (.ref (n0 + i)), .val (.long q0), .second, .val (.long q1), .second, .val (.long q2), .second, .val (.long q3), .second, .val (.long q4), .second, .val (.long q5), .second, .val (.long q6), .second, .val (.long q7), .second, .val (.long q8), .second, .val (.long q9), .second, .val (.long q10), .second, .val (.long q11), .second, .val (.int p12)] []) := by first | (simp [entryFrame, mkF, argsToLocals, Value.category]; done) | rfl
set_option maxRecDepth 65536 in
set_option maxHeartbeats 40000000 in
theorem g1 (l : Launch) (Z : State) (a0 : Array Value) (hw : ∀ d ∈ tables_1, d.before a0 Z = true) (n0 : Nat) (its : List (Cell → Prop)) (i : Nat) (q0 : Int64) (q1 : Int64) (q2 : Int64) (q3 : Int64) (q4 : Int64) (q5 : Int64) (q6 : Int64) (q7 : Int64) (q8 : Int64) (q9 : Int64) (q10 : Int64) (q11 : Int64) (p12 : Int32) (hi : its[i]? = some (own_obj Z "com/example/halfpast/halfpast/bench/Result" ns_Result [(.long (0 : Int64)), (.long (0 : Int64)), (.long (0 : Int64)), (.long (0 : Int64)), (.long (0 : Int64)), (.long (0 : Int64)), (.long (0 : Int64)), (.long (0 : Int64)), (.long (0 : Int64)), (.long (0 : Int64)), (.long (0 : Int64)), (.long (0 : Int64)), (.int (0 : Int32))])) :
    own_met l Z n0 (⟨"com/example/halfpast/halfpast/bench/Result", "<init>", "(JJJJJJJJJJJJZ)V"⟩ : MethodName) prog_6_method_1_code 26 none ({ frames := 2, cells := 0, slots := 0, locals := 24 } : Room) #[(.ref (n0 + i)), (.long q0), (.long q1), (.long q2), (.long q3), (.long q4), (.long q5), (.long q6), (.long q7), (.long q8), (.long q9), (.long q10), (.long q11), (.int p12)] its (fun v its' => v = none ∧ its' = its.set i (own_obj Z "com/example/halfpast/halfpast/bench/Result" ns_Result [(.long q0), (.long q1), (.long q2), (.long q3), (.long q4), (.long q5), (.long q6), (.long q7), (.long q8), (.long q9), (.long q10), (.long q11), (.int (nar .boolean p12))])) := by
  refine own_met.of pf_g1 ?_
  intro p e s m below meth c T0 hx hby hml hret hlk hZ hown hnm A0
  replace hown : s.vm.findClass "com/example/halfpast/halfpast/bench/Result" = some m.cls := hown
  replace hml : c.maxLocals = 26 := hml
  rw [ef_g1 m i n0 q0 q1 q2 q3 q4 q5 q6 q7 q8 q9 q10 q11 p12]
  show own_go _ _ _ _ _ _ _ (T0.setTop (mkF m 0 #[.val (.ref (n0 + i)), .val (.long q0), .second, .val (.long q1), .second, .val (.long q2), .second, .val (.long q3), .second, .val (.long q4), .second, .val (.long q5), .second, .val (.long q6), .second, .val (.long q7), .second, .val (.long q8), .second, .val (.long q9), .second, .val (.long q10), .second, .val (.long q11), .second, .val (.int p12)] []))
  refine own_by (u' := T0.setTop (mkF m 1 #[.val (.ref (n0 + i)), .val (.long q0), .second, .val (.long q1), .second, .val (.long q2), .second, .val (.long q3), .second, .val (.long q4), .second, .val (.long q5), .second, .val (.long q6), .second, .val (.long q7), .second, .val (.long q8), .second, .val (.long q9), .second, .val (.long q10), .second, .val (.long q11), .second, .val (.int p12)] [(.ref (n0 + i))])) (fun _ k => XS.aloadN A0.here hx rfl (own_db hby d_prog_6_method_1_0) rfl rfl k) ?_
  refine own_callC (y := (⟨"java/lang/Record", "<init>", "()V"⟩ : MethodName)) (rest := []) A0 hx hZ hown rfl (hw _ (List.mem_of_getElem? (i := 6) rfl)) (hw _ (List.mem_of_getElem? (i := 7) rfl)) (hw _ (List.mem_of_getElem? (i := 9) rfl)) (hw _ (List.mem_of_getElem? (i := 10) rfl)) (by decide) (gR l Z a0 hw n0 its (n0 + i)) (by rw [hml]; rfl) (n0 + i) [] rfl rfl pd___V rfl (W := 0) (by show 2 * 0 + _ ≤ _; exact Nat.le_of_eq rfl) (own_db hby d_prog_6_method_1_1) (by decide) (by decide) (by decide) (by decide) ?_
  intro v1 i2 T4 hq3 A5
  obtain ⟨rfl, he6⟩ := hq3
  rw [he6] at A5
  replace A5 : own_at p l e _ s m _ below meth c n0 T4 0 0 its := A5
  show own_go _ _ _ _ _ _ _ (T4.setTop (mkF m 4 #[.val (.ref (n0 + i)), .val (.long q0), .second, .val (.long q1), .second, .val (.long q2), .second, .val (.long q3), .second, .val (.long q4), .second, .val (.long q5), .second, .val (.long q6), .second, .val (.long q7), .second, .val (.long q8), .second, .val (.long q9), .second, .val (.long q10), .second, .val (.long q11), .second, .val (.int p12)] []))
  refine own_by (u' := T4.setTop (mkF m 5 #[.val (.ref (n0 + i)), .val (.long q0), .second, .val (.long q1), .second, .val (.long q2), .second, .val (.long q3), .second, .val (.long q4), .second, .val (.long q5), .second, .val (.long q6), .second, .val (.long q7), .second, .val (.long q8), .second, .val (.long q9), .second, .val (.long q10), .second, .val (.long q11), .second, .val (.int p12)] [(.ref (n0 + i))])) (fun _ k => XS.aloadN A5.here hx rfl (own_db hby d_prog_6_method_1_4) rfl rfl k) ?_
  refine own_by (u' := T4.setTop (mkF m 6 #[.val (.ref (n0 + i)), .val (.long q0), .second, .val (.long q1), .second, .val (.long q2), .second, .val (.long q3), .second, .val (.long q4), .second, .val (.long q5), .second, .val (.long q6), .second, .val (.long q7), .second, .val (.long q8), .second, .val (.long q9), .second, .val (.long q10), .second, .val (.long q11), .second, .val (.int p12)] [(.long q0), (.ref (n0 + i))])) (fun _ k => XS.lloadN A5.here hx rfl (own_db hby d_prog_6_method_1_5) rfl k) ?_
  refine own_putF A5 hx hZ hown (hw _ (List.mem_of_getElem? (i := 14) rfl)) (i := i) hi 0 rfl (v' := (.long q0)) rfl (ap_ns_Result hw) (Or.inr ⟨(hw _ (List.mem_of_getElem? (i := 15) rfl)), rfl, hnm⟩) (hw _ (List.mem_of_getElem? (i := 1) rfl)) (ty := .long) (by decide) rfl rfl (own_db hby d_prog_6_method_1_6) (its2 := (its.set i (own_obj Z "com/example/halfpast/halfpast/bench/Result" ns_Result [(.long q0), (.long (0 : Int64)), (.long (0 : Int64)), (.long (0 : Int64)), (.long (0 : Int64)), (.long (0 : Int64)), (.long (0 : Int64)), (.long (0 : Int64)), (.long (0 : Int64)), (.long (0 : Int64)), (.long (0 : Int64)), (.long (0 : Int64)), (.int (0 : Int32))]))) rfl ?_
  intro T7 A8
  show own_go _ _ _ _ _ _ _ (T7.setTop (mkF m 9 #[.val (.ref (n0 + i)), .val (.long q0), .second, .val (.long q1), .second, .val (.long q2), .second, .val (.long q3), .second, .val (.long q4), .second, .val (.long q5), .second, .val (.long q6), .second, .val (.long q7), .second, .val (.long q8), .second, .val (.long q9), .second, .val (.long q10), .second, .val (.long q11), .second, .val (.int p12)] []))
  refine own_by (u' := T7.setTop (mkF m 10 #[.val (.ref (n0 + i)), .val (.long q0), .second, .val (.long q1), .second, .val (.long q2), .second, .val (.long q3), .second, .val (.long q4), .second, .val (.long q5), .second, .val (.long q6), .second, .val (.long q7), .second, .val (.long q8), .second, .val (.long q9), .second, .val (.long q10), .second, .val (.long q11), .second, .val (.int p12)] [(.ref (n0 + i))])) (fun _ k => XS.aloadN A8.here hx rfl (own_db hby d_prog_6_method_1_9) rfl rfl k) ?_
  refine own_by (u' := T7.setTop (mkF m 11 #[.val (.ref (n0 + i)), .val (.long q0), .second, .val (.long q1), .second, .val (.long q2), .second, .val (.long q3), .second, .val (.long q4), .second, .val (.long q5), .second, .val (.long q6), .second, .val (.long q7), .second, .val (.long q8), .second, .val (.long q9), .second, .val (.long q10), .second, .val (.long q11), .second, .val (.int p12)] [(.long q1), (.ref (n0 + i))])) (fun _ k => XS.lloadN A8.here hx rfl (own_db hby d_prog_6_method_1_10) rfl k) ?_
  refine own_putF A8 hx hZ hown (hw _ (List.mem_of_getElem? (i := 16) rfl)) (i := i) (own_geti hi) 1 rfl (v' := (.long q1)) rfl (ap_ns_Result hw) (Or.inr ⟨(hw _ (List.mem_of_getElem? (i := 17) rfl)), rfl, hnm⟩) (hw _ (List.mem_of_getElem? (i := 1) rfl)) (ty := .long) (by decide) rfl rfl (own_db hby d_prog_6_method_1_11) (its2 := (its.set i (own_obj Z "com/example/halfpast/halfpast/bench/Result" ns_Result [(.long q0), (.long q1), (.long (0 : Int64)), (.long (0 : Int64)), (.long (0 : Int64)), (.long (0 : Int64)), (.long (0 : Int64)), (.long (0 : Int64)), (.long (0 : Int64)), (.long (0 : Int64)), (.long (0 : Int64)), (.long (0 : Int64)), (.int (0 : Int32))]))) (List.set_set ..) ?_
  intro T9 A10
  show own_go _ _ _ _ _ _ _ (T9.setTop (mkF m 14 #[.val (.ref (n0 + i)), .val (.long q0), .second, .val (.long q1), .second, .val (.long q2), .second, .val (.long q3), .second, .val (.long q4), .second, .val (.long q5), .second, .val (.long q6), .second, .val (.long q7), .second, .val (.long q8), .second, .val (.long q9), .second, .val (.long q10), .second, .val (.long q11), .second, .val (.int p12)] []))
  refine own_by (u' := T9.setTop (mkF m 15 #[.val (.ref (n0 + i)), .val (.long q0), .second, .val (.long q1), .second, .val (.long q2), .second, .val (.long q3), .second, .val (.long q4), .second, .val (.long q5), .second, .val (.long q6), .second, .val (.long q7), .second, .val (.long q8), .second, .val (.long q9), .second, .val (.long q10), .second, .val (.long q11), .second, .val (.int p12)] [(.ref (n0 + i))])) (fun _ k => XS.aloadN A10.here hx rfl (own_db hby d_prog_6_method_1_14) rfl rfl k) ?_
  refine own_by (u' := T9.setTop (mkF m 17 #[.val (.ref (n0 + i)), .val (.long q0), .second, .val (.long q1), .second, .val (.long q2), .second, .val (.long q3), .second, .val (.long q4), .second, .val (.long q5), .second, .val (.long q6), .second, .val (.long q7), .second, .val (.long q8), .second, .val (.long q9), .second, .val (.long q10), .second, .val (.long q11), .second, .val (.int p12)] [(.long q2), (.ref (n0 + i))])) (fun _ k => XS.lload A10.here hx rfl (own_db hby d_prog_6_method_1_15) rfl k) ?_
  refine own_putF A10 hx hZ hown (hw _ (List.mem_of_getElem? (i := 18) rfl)) (i := i) (own_geti hi) 2 rfl (v' := (.long q2)) rfl (ap_ns_Result hw) (Or.inr ⟨(hw _ (List.mem_of_getElem? (i := 19) rfl)), rfl, hnm⟩) (hw _ (List.mem_of_getElem? (i := 1) rfl)) (ty := .long) (by decide) rfl rfl (own_db hby d_prog_6_method_1_17) (its2 := (its.set i (own_obj Z "com/example/halfpast/halfpast/bench/Result" ns_Result [(.long q0), (.long q1), (.long q2), (.long (0 : Int64)), (.long (0 : Int64)), (.long (0 : Int64)), (.long (0 : Int64)), (.long (0 : Int64)), (.long (0 : Int64)), (.long (0 : Int64)), (.long (0 : Int64)), (.long (0 : Int64)), (.int (0 : Int32))]))) (List.set_set ..) ?_
  intro T11 A12
  show own_go _ _ _ _ _ _ _ (T11.setTop (mkF m 20 #[.val (.ref (n0 + i)), .val (.long q0), .second, .val (.long q1), .second, .val (.long q2), .second, .val (.long q3), .second, .val (.long q4), .second, .val (.long q5), .second, .val (.long q6), .second, .val (.long q7), .second, .val (.long q8), .second, .val (.long q9), .second, .val (.long q10), .second, .val (.long q11), .second, .val (.int p12)] []))
  refine own_by (u' := T11.setTop (mkF m 21 #[.val (.ref (n0 + i)), .val (.long q0), .second, .val (.long q1), .second, .val (.long q2), .second, .val (.long q3), .second, .val (.long q4), .second, .val (.long q5), .second, .val (.long q6), .second, .val (.long q7), .second, .val (.long q8), .second, .val (.long q9), .second, .val (.long q10), .second, .val (.long q11), .second, .val (.int p12)] [(.ref (n0 + i))])) (fun _ k => XS.aloadN A12.here hx rfl (own_db hby d_prog_6_method_1_20) rfl rfl k) ?_
  refine own_by (u' := T11.setTop (mkF m 23 #[.val (.ref (n0 + i)), .val (.long q0), .second, .val (.long q1), .second, .val (.long q2), .second, .val (.long q3), .second, .val (.long q4), .second, .val (.long q5), .second, .val (.long q6), .second, .val (.long q7), .second, .val (.long q8), .second, .val (.long q9), .second, .val (.long q10), .second, .val (.long q11), .second, .val (.int p12)] [(.long q3), (.ref (n0 + i))])) (fun _ k => XS.lload A12.here hx rfl (own_db hby d_prog_6_method_1_21) rfl k) ?_
  refine own_putF A12 hx hZ hown (hw _ (List.mem_of_getElem? (i := 20) rfl)) (i := i) (own_geti hi) 3 rfl (v' := (.long q3)) rfl (ap_ns_Result hw) (Or.inr ⟨(hw _ (List.mem_of_getElem? (i := 21) rfl)), rfl, hnm⟩) (hw _ (List.mem_of_getElem? (i := 1) rfl)) (ty := .long) (by decide) rfl rfl (own_db hby d_prog_6_method_1_23) (its2 := (its.set i (own_obj Z "com/example/halfpast/halfpast/bench/Result" ns_Result [(.long q0), (.long q1), (.long q2), (.long q3), (.long (0 : Int64)), (.long (0 : Int64)), (.long (0 : Int64)), (.long (0 : Int64)), (.long (0 : Int64)), (.long (0 : Int64)), (.long (0 : Int64)), (.long (0 : Int64)), (.int (0 : Int32))]))) (List.set_set ..) ?_
  intro T13 A14
  show own_go _ _ _ _ _ _ _ (T13.setTop (mkF m 26 #[.val (.ref (n0 + i)), .val (.long q0), .second, .val (.long q1), .second, .val (.long q2), .second, .val (.long q3), .second, .val (.long q4), .second, .val (.long q5), .second, .val (.long q6), .second, .val (.long q7), .second, .val (.long q8), .second, .val (.long q9), .second, .val (.long q10), .second, .val (.long q11), .second, .val (.int p12)] []))
  refine own_by (u' := T13.setTop (mkF m 27 #[.val (.ref (n0 + i)), .val (.long q0), .second, .val (.long q1), .second, .val (.long q2), .second, .val (.long q3), .second, .val (.long q4), .second, .val (.long q5), .second, .val (.long q6), .second, .val (.long q7), .second, .val (.long q8), .second, .val (.long q9), .second, .val (.long q10), .second, .val (.long q11), .second, .val (.int p12)] [(.ref (n0 + i))])) (fun _ k => XS.aloadN A14.here hx rfl (own_db hby d_prog_6_method_1_26) rfl rfl k) ?_
  refine own_by (u' := T13.setTop (mkF m 29 #[.val (.ref (n0 + i)), .val (.long q0), .second, .val (.long q1), .second, .val (.long q2), .second, .val (.long q3), .second, .val (.long q4), .second, .val (.long q5), .second, .val (.long q6), .second, .val (.long q7), .second, .val (.long q8), .second, .val (.long q9), .second, .val (.long q10), .second, .val (.long q11), .second, .val (.int p12)] [(.long q4), (.ref (n0 + i))])) (fun _ k => XS.lload A14.here hx rfl (own_db hby d_prog_6_method_1_27) rfl k) ?_
  refine own_putF A14 hx hZ hown (hw _ (List.mem_of_getElem? (i := 22) rfl)) (i := i) (own_geti hi) 4 rfl (v' := (.long q4)) rfl (ap_ns_Result hw) (Or.inr ⟨(hw _ (List.mem_of_getElem? (i := 23) rfl)), rfl, hnm⟩) (hw _ (List.mem_of_getElem? (i := 1) rfl)) (ty := .long) (by decide) rfl rfl (own_db hby d_prog_6_method_1_29) (its2 := (its.set i (own_obj Z "com/example/halfpast/halfpast/bench/Result" ns_Result [(.long q0), (.long q1), (.long q2), (.long q3), (.long q4), (.long (0 : Int64)), (.long (0 : Int64)), (.long (0 : Int64)), (.long (0 : Int64)), (.long (0 : Int64)), (.long (0 : Int64)), (.long (0 : Int64)), (.int (0 : Int32))]))) (List.set_set ..) ?_
  intro T15 A16
  show own_go _ _ _ _ _ _ _ (T15.setTop (mkF m 32 #[.val (.ref (n0 + i)), .val (.long q0), .second, .val (.long q1), .second, .val (.long q2), .second, .val (.long q3), .second, .val (.long q4), .second, .val (.long q5), .second, .val (.long q6), .second, .val (.long q7), .second, .val (.long q8), .second, .val (.long q9), .second, .val (.long q10), .second, .val (.long q11), .second, .val (.int p12)] []))
  refine own_by (u' := T15.setTop (mkF m 33 #[.val (.ref (n0 + i)), .val (.long q0), .second, .val (.long q1), .second, .val (.long q2), .second, .val (.long q3), .second, .val (.long q4), .second, .val (.long q5), .second, .val (.long q6), .second, .val (.long q7), .second, .val (.long q8), .second, .val (.long q9), .second, .val (.long q10), .second, .val (.long q11), .second, .val (.int p12)] [(.ref (n0 + i))])) (fun _ k => XS.aloadN A16.here hx rfl (own_db hby d_prog_6_method_1_32) rfl rfl k) ?_
  refine own_by (u' := T15.setTop (mkF m 35 #[.val (.ref (n0 + i)), .val (.long q0), .second, .val (.long q1), .second, .val (.long q2), .second, .val (.long q3), .second, .val (.long q4), .second, .val (.long q5), .second, .val (.long q6), .second, .val (.long q7), .second, .val (.long q8), .second, .val (.long q9), .second, .val (.long q10), .second, .val (.long q11), .second, .val (.int p12)] [(.long q5), (.ref (n0 + i))])) (fun _ k => XS.lload A16.here hx rfl (own_db hby d_prog_6_method_1_33) rfl k) ?_
  refine own_putF A16 hx hZ hown (hw _ (List.mem_of_getElem? (i := 24) rfl)) (i := i) (own_geti hi) 5 rfl (v' := (.long q5)) rfl (ap_ns_Result hw) (Or.inr ⟨(hw _ (List.mem_of_getElem? (i := 25) rfl)), rfl, hnm⟩) (hw _ (List.mem_of_getElem? (i := 1) rfl)) (ty := .long) (by decide) rfl rfl (own_db hby d_prog_6_method_1_35) (its2 := (its.set i (own_obj Z "com/example/halfpast/halfpast/bench/Result" ns_Result [(.long q0), (.long q1), (.long q2), (.long q3), (.long q4), (.long q5), (.long (0 : Int64)), (.long (0 : Int64)), (.long (0 : Int64)), (.long (0 : Int64)), (.long (0 : Int64)), (.long (0 : Int64)), (.int (0 : Int32))]))) (List.set_set ..) ?_
  intro T17 A18
  show own_go _ _ _ _ _ _ _ (T17.setTop (mkF m 38 #[.val (.ref (n0 + i)), .val (.long q0), .second, .val (.long q1), .second, .val (.long q2), .second, .val (.long q3), .second, .val (.long q4), .second, .val (.long q5), .second, .val (.long q6), .second, .val (.long q7), .second, .val (.long q8), .second, .val (.long q9), .second, .val (.long q10), .second, .val (.long q11), .second, .val (.int p12)] []))
  refine own_by (u' := T17.setTop (mkF m 39 #[.val (.ref (n0 + i)), .val (.long q0), .second, .val (.long q1), .second, .val (.long q2), .second, .val (.long q3), .second, .val (.long q4), .second, .val (.long q5), .second, .val (.long q6), .second, .val (.long q7), .second, .val (.long q8), .second, .val (.long q9), .second, .val (.long q10), .second, .val (.long q11), .second, .val (.int p12)] [(.ref (n0 + i))])) (fun _ k => XS.aloadN A18.here hx rfl (own_db hby d_prog_6_method_1_38) rfl rfl k) ?_
  refine own_by (u' := T17.setTop (mkF m 41 #[.val (.ref (n0 + i)), .val (.long q0), .second, .val (.long q1), .second, .val (.long q2), .second, .val (.long q3), .second, .val (.long q4), .second, .val (.long q5), .second, .val (.long q6), .second, .val (.long q7), .second, .val (.long q8), .second, .val (.long q9), .second, .val (.long q10), .second, .val (.long q11), .second, .val (.int p12)] [(.long q6), (.ref (n0 + i))])) (fun _ k => XS.lload A18.here hx rfl (own_db hby d_prog_6_method_1_39) rfl k) ?_
  refine own_putF A18 hx hZ hown (hw _ (List.mem_of_getElem? (i := 26) rfl)) (i := i) (own_geti hi) 6 rfl (v' := (.long q6)) rfl (ap_ns_Result hw) (Or.inr ⟨(hw _ (List.mem_of_getElem? (i := 27) rfl)), rfl, hnm⟩) (hw _ (List.mem_of_getElem? (i := 1) rfl)) (ty := .long) (by decide) rfl rfl (own_db hby d_prog_6_method_1_41) (its2 := (its.set i (own_obj Z "com/example/halfpast/halfpast/bench/Result" ns_Result [(.long q0), (.long q1), (.long q2), (.long q3), (.long q4), (.long q5), (.long q6), (.long (0 : Int64)), (.long (0 : Int64)), (.long (0 : Int64)), (.long (0 : Int64)), (.long (0 : Int64)), (.int (0 : Int32))]))) (List.set_set ..) ?_
  intro T19 A20
  show own_go _ _ _ _ _ _ _ (T19.setTop (mkF m 44 #[.val (.ref (n0 + i)), .val (.long q0), .second, .val (.long q1), .second, .val (.long q2), .second, .val (.long q3), .second, .val (.long q4), .second, .val (.long q5), .second, .val (.long q6), .second, .val (.long q7), .second, .val (.long q8), .second, .val (.long q9), .second, .val (.long q10), .second, .val (.long q11), .second, .val (.int p12)] []))
  refine own_by (u' := T19.setTop (mkF m 45 #[.val (.ref (n0 + i)), .val (.long q0), .second, .val (.long q1), .second, .val (.long q2), .second, .val (.long q3), .second, .val (.long q4), .second, .val (.long q5), .second, .val (.long q6), .second, .val (.long q7), .second, .val (.long q8), .second, .val (.long q9), .second, .val (.long q10), .second, .val (.long q11), .second, .val (.int p12)] [(.ref (n0 + i))])) (fun _ k => XS.aloadN A20.here hx rfl (own_db hby d_prog_6_method_1_44) rfl rfl k) ?_
  refine own_by (u' := T19.setTop (mkF m 47 #[.val (.ref (n0 + i)), .val (.long q0), .second, .val (.long q1), .second, .val (.long q2), .second, .val (.long q3), .second, .val (.long q4), .second, .val (.long q5), .second, .val (.long q6), .second, .val (.long q7), .second, .val (.long q8), .second, .val (.long q9), .second, .val (.long q10), .second, .val (.long q11), .second, .val (.int p12)] [(.long q7), (.ref (n0 + i))])) (fun _ k => XS.lload A20.here hx rfl (own_db hby d_prog_6_method_1_45) rfl k) ?_
  refine own_putF A20 hx hZ hown (hw _ (List.mem_of_getElem? (i := 28) rfl)) (i := i) (own_geti hi) 7 rfl (v' := (.long q7)) rfl (ap_ns_Result hw) (Or.inr ⟨(hw _ (List.mem_of_getElem? (i := 29) rfl)), rfl, hnm⟩) (hw _ (List.mem_of_getElem? (i := 1) rfl)) (ty := .long) (by decide) rfl rfl (own_db hby d_prog_6_method_1_47) (its2 := (its.set i (own_obj Z "com/example/halfpast/halfpast/bench/Result" ns_Result [(.long q0), (.long q1), (.long q2), (.long q3), (.long q4), (.long q5), (.long q6), (.long q7), (.long (0 : Int64)), (.long (0 : Int64)), (.long (0 : Int64)), (.long (0 : Int64)), (.int (0 : Int32))]))) (List.set_set ..) ?_
  intro T21 A22
  show own_go _ _ _ _ _ _ _ (T21.setTop (mkF m 50 #[.val (.ref (n0 + i)), .val (.long q0), .second, .val (.long q1), .second, .val (.long q2), .second, .val (.long q3), .second, .val (.long q4), .second, .val (.long q5), .second, .val (.long q6), .second, .val (.long q7), .second, .val (.long q8), .second, .val (.long q9), .second, .val (.long q10), .second, .val (.long q11), .second, .val (.int p12)] []))
  refine own_by (u' := T21.setTop (mkF m 51 #[.val (.ref (n0 + i)), .val (.long q0), .second, .val (.long q1), .second, .val (.long q2), .second, .val (.long q3), .second, .val (.long q4), .second, .val (.long q5), .second, .val (.long q6), .second, .val (.long q7), .second, .val (.long q8), .second, .val (.long q9), .second, .val (.long q10), .second, .val (.long q11), .second, .val (.int p12)] [(.ref (n0 + i))])) (fun _ k => XS.aloadN A22.here hx rfl (own_db hby d_prog_6_method_1_50) rfl rfl k) ?_
  refine own_by (u' := T21.setTop (mkF m 53 #[.val (.ref (n0 + i)), .val (.long q0), .second, .val (.long q1), .second, .val (.long q2), .second, .val (.long q3), .second, .val (.long q4), .second, .val (.long q5), .second, .val (.long q6), .second, .val (.long q7), .second, .val (.long q8), .second, .val (.long q9), .second, .val (.long q10), .second, .val (.long q11), .second, .val (.int p12)] [(.long q8), (.ref (n0 + i))])) (fun _ k => XS.lload A22.here hx rfl (own_db hby d_prog_6_method_1_51) rfl k) ?_
  refine own_putF A22 hx hZ hown (hw _ (List.mem_of_getElem? (i := 30) rfl)) (i := i) (own_geti hi) 8 rfl (v' := (.long q8)) rfl (ap_ns_Result hw) (Or.inr ⟨(hw _ (List.mem_of_getElem? (i := 31) rfl)), rfl, hnm⟩) (hw _ (List.mem_of_getElem? (i := 1) rfl)) (ty := .long) (by decide) rfl rfl (own_db hby d_prog_6_method_1_53) (its2 := (its.set i (own_obj Z "com/example/halfpast/halfpast/bench/Result" ns_Result [(.long q0), (.long q1), (.long q2), (.long q3), (.long q4), (.long q5), (.long q6), (.long q7), (.long q8), (.long (0 : Int64)), (.long (0 : Int64)), (.long (0 : Int64)), (.int (0 : Int32))]))) (List.set_set ..) ?_
  intro T23 A24
  show own_go _ _ _ _ _ _ _ (T23.setTop (mkF m 56 #[.val (.ref (n0 + i)), .val (.long q0), .second, .val (.long q1), .second, .val (.long q2), .second, .val (.long q3), .second, .val (.long q4), .second, .val (.long q5), .second, .val (.long q6), .second, .val (.long q7), .second, .val (.long q8), .second, .val (.long q9), .second, .val (.long q10), .second, .val (.long q11), .second, .val (.int p12)] []))
  refine own_by (u' := T23.setTop (mkF m 57 #[.val (.ref (n0 + i)), .val (.long q0), .second, .val (.long q1), .second, .val (.long q2), .second, .val (.long q3), .second, .val (.long q4), .second, .val (.long q5), .second, .val (.long q6), .second, .val (.long q7), .second, .val (.long q8), .second, .val (.long q9), .second, .val (.long q10), .second, .val (.long q11), .second, .val (.int p12)] [(.ref (n0 + i))])) (fun _ k => XS.aloadN A24.here hx rfl (own_db hby d_prog_6_method_1_56) rfl rfl k) ?_
  refine own_by (u' := T23.setTop (mkF m 59 #[.val (.ref (n0 + i)), .val (.long q0), .second, .val (.long q1), .second, .val (.long q2), .second, .val (.long q3), .second, .val (.long q4), .second, .val (.long q5), .second, .val (.long q6), .second, .val (.long q7), .second, .val (.long q8), .second, .val (.long q9), .second, .val (.long q10), .second, .val (.long q11), .second, .val (.int p12)] [(.long q9), (.ref (n0 + i))])) (fun _ k => XS.lload A24.here hx rfl (own_db hby d_prog_6_method_1_57) rfl k) ?_
  refine own_putF A24 hx hZ hown (hw _ (List.mem_of_getElem? (i := 32) rfl)) (i := i) (own_geti hi) 9 rfl (v' := (.long q9)) rfl (ap_ns_Result hw) (Or.inr ⟨(hw _ (List.mem_of_getElem? (i := 33) rfl)), rfl, hnm⟩) (hw _ (List.mem_of_getElem? (i := 1) rfl)) (ty := .long) (by decide) rfl rfl (own_db hby d_prog_6_method_1_59) (its2 := (its.set i (own_obj Z "com/example/halfpast/halfpast/bench/Result" ns_Result [(.long q0), (.long q1), (.long q2), (.long q3), (.long q4), (.long q5), (.long q6), (.long q7), (.long q8), (.long q9), (.long (0 : Int64)), (.long (0 : Int64)), (.int (0 : Int32))]))) (List.set_set ..) ?_
  intro T25 A26
  show own_go _ _ _ _ _ _ _ (T25.setTop (mkF m 62 #[.val (.ref (n0 + i)), .val (.long q0), .second, .val (.long q1), .second, .val (.long q2), .second, .val (.long q3), .second, .val (.long q4), .second, .val (.long q5), .second, .val (.long q6), .second, .val (.long q7), .second, .val (.long q8), .second, .val (.long q9), .second, .val (.long q10), .second, .val (.long q11), .second, .val (.int p12)] []))
  refine own_by (u' := T25.setTop (mkF m 63 #[.val (.ref (n0 + i)), .val (.long q0), .second, .val (.long q1), .second, .val (.long q2), .second, .val (.long q3), .second, .val (.long q4), .second, .val (.long q5), .second, .val (.long q6), .second, .val (.long q7), .second, .val (.long q8), .second, .val (.long q9), .second, .val (.long q10), .second, .val (.long q11), .second, .val (.int p12)] [(.ref (n0 + i))])) (fun _ k => XS.aloadN A26.here hx rfl (own_db hby d_prog_6_method_1_62) rfl rfl k) ?_
  refine own_by (u' := T25.setTop (mkF m 65 #[.val (.ref (n0 + i)), .val (.long q0), .second, .val (.long q1), .second, .val (.long q2), .second, .val (.long q3), .second, .val (.long q4), .second, .val (.long q5), .second, .val (.long q6), .second, .val (.long q7), .second, .val (.long q8), .second, .val (.long q9), .second, .val (.long q10), .second, .val (.long q11), .second, .val (.int p12)] [(.long q10), (.ref (n0 + i))])) (fun _ k => XS.lload A26.here hx rfl (own_db hby d_prog_6_method_1_63) rfl k) ?_
  refine own_putF A26 hx hZ hown (hw _ (List.mem_of_getElem? (i := 34) rfl)) (i := i) (own_geti hi) 10 rfl (v' := (.long q10)) rfl (ap_ns_Result hw) (Or.inr ⟨(hw _ (List.mem_of_getElem? (i := 35) rfl)), rfl, hnm⟩) (hw _ (List.mem_of_getElem? (i := 1) rfl)) (ty := .long) (by decide) rfl rfl (own_db hby d_prog_6_method_1_65) (its2 := (its.set i (own_obj Z "com/example/halfpast/halfpast/bench/Result" ns_Result [(.long q0), (.long q1), (.long q2), (.long q3), (.long q4), (.long q5), (.long q6), (.long q7), (.long q8), (.long q9), (.long q10), (.long (0 : Int64)), (.int (0 : Int32))]))) (List.set_set ..) ?_
  intro T27 A28
  show own_go _ _ _ _ _ _ _ (T27.setTop (mkF m 68 #[.val (.ref (n0 + i)), .val (.long q0), .second, .val (.long q1), .second, .val (.long q2), .second, .val (.long q3), .second, .val (.long q4), .second, .val (.long q5), .second, .val (.long q6), .second, .val (.long q7), .second, .val (.long q8), .second, .val (.long q9), .second, .val (.long q10), .second, .val (.long q11), .second, .val (.int p12)] []))
  refine own_by (u' := T27.setTop (mkF m 69 #[.val (.ref (n0 + i)), .val (.long q0), .second, .val (.long q1), .second, .val (.long q2), .second, .val (.long q3), .second, .val (.long q4), .second, .val (.long q5), .second, .val (.long q6), .second, .val (.long q7), .second, .val (.long q8), .second, .val (.long q9), .second, .val (.long q10), .second, .val (.long q11), .second, .val (.int p12)] [(.ref (n0 + i))])) (fun _ k => XS.aloadN A28.here hx rfl (own_db hby d_prog_6_method_1_68) rfl rfl k) ?_
  refine own_by (u' := T27.setTop (mkF m 71 #[.val (.ref (n0 + i)), .val (.long q0), .second, .val (.long q1), .second, .val (.long q2), .second, .val (.long q3), .second, .val (.long q4), .second, .val (.long q5), .second, .val (.long q6), .second, .val (.long q7), .second, .val (.long q8), .second, .val (.long q9), .second, .val (.long q10), .second, .val (.long q11), .second, .val (.int p12)] [(.long q11), (.ref (n0 + i))])) (fun _ k => XS.lload A28.here hx rfl (own_db hby d_prog_6_method_1_69) rfl k) ?_
  refine own_putF A28 hx hZ hown (hw _ (List.mem_of_getElem? (i := 36) rfl)) (i := i) (own_geti hi) 11 rfl (v' := (.long q11)) rfl (ap_ns_Result hw) (Or.inr ⟨(hw _ (List.mem_of_getElem? (i := 37) rfl)), rfl, hnm⟩) (hw _ (List.mem_of_getElem? (i := 1) rfl)) (ty := .long) (by decide) rfl rfl (own_db hby d_prog_6_method_1_71) (its2 := (its.set i (own_obj Z "com/example/halfpast/halfpast/bench/Result" ns_Result [(.long q0), (.long q1), (.long q2), (.long q3), (.long q4), (.long q5), (.long q6), (.long q7), (.long q8), (.long q9), (.long q10), (.long q11), (.int (0 : Int32))]))) (List.set_set ..) ?_
  intro T29 A30
  show own_go _ _ _ _ _ _ _ (T29.setTop (mkF m 74 #[.val (.ref (n0 + i)), .val (.long q0), .second, .val (.long q1), .second, .val (.long q2), .second, .val (.long q3), .second, .val (.long q4), .second, .val (.long q5), .second, .val (.long q6), .second, .val (.long q7), .second, .val (.long q8), .second, .val (.long q9), .second, .val (.long q10), .second, .val (.long q11), .second, .val (.int p12)] []))
  refine own_by (u' := T29.setTop (mkF m 75 #[.val (.ref (n0 + i)), .val (.long q0), .second, .val (.long q1), .second, .val (.long q2), .second, .val (.long q3), .second, .val (.long q4), .second, .val (.long q5), .second, .val (.long q6), .second, .val (.long q7), .second, .val (.long q8), .second, .val (.long q9), .second, .val (.long q10), .second, .val (.long q11), .second, .val (.int p12)] [(.ref (n0 + i))])) (fun _ k => XS.aloadN A30.here hx rfl (own_db hby d_prog_6_method_1_74) rfl rfl k) ?_
  refine own_by (u' := T29.setTop (mkF m 77 #[.val (.ref (n0 + i)), .val (.long q0), .second, .val (.long q1), .second, .val (.long q2), .second, .val (.long q3), .second, .val (.long q4), .second, .val (.long q5), .second, .val (.long q6), .second, .val (.long q7), .second, .val (.long q8), .second, .val (.long q9), .second, .val (.long q10), .second, .val (.long q11), .second, .val (.int p12)] [(.int p12), (.ref (n0 + i))])) (fun _ k => XS.iload A30.here hx rfl (own_db hby d_prog_6_method_1_75) rfl k) ?_
  refine own_putF A30 hx hZ hown (hw _ (List.mem_of_getElem? (i := 38) rfl)) (i := i) (own_geti hi) 12 rfl (v' := (.int (nar .boolean p12))) rfl (ap_ns_Result hw) (Or.inr ⟨(hw _ (List.mem_of_getElem? (i := 39) rfl)), rfl, hnm⟩) (hw _ (List.mem_of_getElem? (i := 1) rfl)) (ty := .boolean) (by decide) rfl (fits_nar_bool _) (own_db hby d_prog_6_method_1_77) (its2 := (its.set i (own_obj Z "com/example/halfpast/halfpast/bench/Result" ns_Result [(.long q0), (.long q1), (.long q2), (.long q3), (.long q4), (.long q5), (.long q6), (.long q7), (.long q8), (.long q9), (.long q10), (.long q11), (.int (nar .boolean p12))]))) (List.set_set ..) ?_
  intro T31 A32
  show own_go _ _ _ _ _ _ _ (T31.setTop (mkF m 80 #[.val (.ref (n0 + i)), .val (.long q0), .second, .val (.long q1), .second, .val (.long q2), .second, .val (.long q3), .second, .val (.long q4), .second, .val (.long q5), .second, .val (.long q6), .second, .val (.long q7), .second, .val (.long q8), .second, .val (.long q9), .second, .val (.long q10), .second, .val (.long q11), .second, .val (.int p12)] []))
  exact own_retV A32 hx hlk hret (own_db hby d_prog_6_method_1_80) (by decide) (by decide) ⟨rfl, rfl⟩
theorem d_prog_6_method_2_0 : decode prog_6_method_2_code 0 = .ok (.aload_n 0, 1) := by decide +kernel
theorem d_prog_6_method_2_1 : decode prog_6_method_2_code 1 = .ok (.getfield 7, 3) := by decide +kernel
theorem d_prog_6_method_2_4 : decode prog_6_method_2_code 4 = .ok (.aload_n 0, 1) := by decide +kernel
theorem d_prog_6_method_2_5 : decode prog_6_method_2_code 5 = .ok (.getfield 22, 3) := by decide +kernel
theorem d_prog_6_method_2_8 : decode prog_6_method_2_code 8 = .ok (.lsub, 1) := by decide +kernel
theorem d_prog_6_method_2_9 : decode prog_6_method_2_code 9 = .ok (.aload_n 0, 1) := by decide +kernel
theorem d_prog_6_method_2_10 : decode prog_6_method_2_code 10 = .ok (.getfield 25, 3) := by decide +kernel
theorem d_prog_6_method_2_13 : decode prog_6_method_2_code 13 = .ok (.lsub, 1) := by decide +kernel
theorem d_prog_6_method_2_14 : decode prog_6_method_2_code 14 = .ok (.lreturn, 1) := by decide +kernel
def f2 (x0 : Int64) (x4 : Int64) (x5 : Int64) : Int64 := ((x0 - x4) - x5)
theorem pf_g2 : plainFor (⟨"com/example/halfpast/halfpast/bench/Result", "missing", "()J"⟩ : MethodName) = true := by first | exact plainFor_of_name (by first | (simp [plainName, overriddenIn]; done) | decide +kernel) | decide +kernel
theorem ef_g2 (m : MethodId) (i : Nat) (n0 : Nat) : entryFrame m #[(.ref (n0 + i))] 1 = (mkF m 0 #[.val (.ref (n0 + i))] []) := by first | (simp [entryFrame, mkF, argsToLocals, Value.category]; done) | rfl
set_option maxRecDepth 65536 in
set_option maxHeartbeats 40000000 in
theorem g2 (l : Launch) (Z : State) (a0 : Array Value) (hw : ∀ d ∈ tables_1, d.before a0 Z = true) (n0 : Nat) (its : List (Cell → Prop)) (i : Nat) (x0 : Int64) (x1 : Int64) (x2 : Int64) (x3 : Int64) (x4 : Int64) (x5 : Int64) (x6 : Int64) (x7 : Int64) (x8 : Int64) (x9 : Int64) (x10 : Int64) (x11 : Int64) (x12 : Int32)  (hi : its[i]? = some (own_obj Z "com/example/halfpast/halfpast/bench/Result" ns_Result [(.long x0), (.long x1), (.long x2), (.long x3), (.long x4), (.long x5), (.long x6), (.long x7), (.long x8), (.long x9), (.long x10), (.long x11), (.int x12)])) :
    own_met l Z n0 (⟨"com/example/halfpast/halfpast/bench/Result", "missing", "()J"⟩ : MethodName) prog_6_method_2_code 1 (some .long) ({ frames := 0, cells := 0, slots := 0, locals := 0 } : Room) #[(.ref (n0 + i))] its (fun v its' => v = some (.long (f2 x0 x4 x5)) ∧ its' = its) := by
  refine own_met.of pf_g2 ?_
  intro p e s m below meth c T0 hx hby hml hret hlk hZ hown hnm A0
  replace hown : s.vm.findClass "com/example/halfpast/halfpast/bench/Result" = some m.cls := hown
  replace hml : c.maxLocals = 1 := hml
  rw [ef_g2 m i n0]
  show own_go _ _ _ _ _ _ _ (T0.setTop (mkF m 0 #[.val (.ref (n0 + i))] []))
  refine own_by (u' := T0.setTop (mkF m 1 #[.val (.ref (n0 + i))] [(.ref (n0 + i))])) (fun _ k => XS.aloadN A0.here hx rfl (own_db hby d_prog_6_method_2_0) rfl rfl k) ?_
  refine own_getF A0 hx hZ hown (hw _ (List.mem_of_getElem? (i := 14) rfl)) (i := i) hi 0 rfl rfl (own_db hby d_prog_6_method_2_1) ?_
  intro T1 A2
  show own_go _ _ _ _ _ _ _ (T1.setTop (mkF m 4 #[.val (.ref (n0 + i))] [(.long x0)]))
  refine own_by (u' := T1.setTop (mkF m 5 #[.val (.ref (n0 + i))] [(.ref (n0 + i)), (.long x0)])) (fun _ k => XS.aloadN A2.here hx rfl (own_db hby d_prog_6_method_2_4) rfl rfl k) ?_
  refine own_getF A2 hx hZ hown (hw _ (List.mem_of_getElem? (i := 22) rfl)) (i := i) hi 4 rfl rfl (own_db hby d_prog_6_method_2_5) ?_
  intro T3 A4
  show own_go _ _ _ _ _ _ _ (T3.setTop (mkF m 8 #[.val (.ref (n0 + i))] [(.long x4), (.long x0)]))
  refine own_by (u' := T3.setTop (mkF m 9 #[.val (.ref (n0 + i))] [(.long (x0 - x4))])) (fun _ k => XS.lsub A4.here hx rfl (own_db hby d_prog_6_method_2_8) rfl k) ?_
  refine own_by (u' := T3.setTop (mkF m 10 #[.val (.ref (n0 + i))] [(.ref (n0 + i)), (.long (x0 - x4))])) (fun _ k => XS.aloadN A4.here hx rfl (own_db hby d_prog_6_method_2_9) rfl rfl k) ?_
  refine own_getF A4 hx hZ hown (hw _ (List.mem_of_getElem? (i := 24) rfl)) (i := i) hi 5 rfl rfl (own_db hby d_prog_6_method_2_10) ?_
  intro T5 A6
  show own_go _ _ _ _ _ _ _ (T5.setTop (mkF m 13 #[.val (.ref (n0 + i))] [(.long x5), (.long (x0 - x4))]))
  refine own_by (u' := T5.setTop (mkF m 14 #[.val (.ref (n0 + i))] [(.long ((x0 - x4) - x5))])) (fun _ k => XS.lsub A6.here hx rfl (own_db hby d_prog_6_method_2_13) rfl k) ?_
  exact own_retJ A6 hx hlk hret (own_db hby d_prog_6_method_2_14) (by decide) (by decide) ⟨by rw [show f2 x0 x4 x5 = ((x0 - x4) - x5) from by unfold f2; rfl] <;> rfl, rfl⟩
theorem own_sum (j k r : Int64) : f2 j k r + k + r = j := by
  unfold f2
  rw [Int64.sub_eq_add_neg, Int64.sub_eq_add_neg, Int64.add_assoc j (-k) (-r), Int64.add_assoc j, Int64.add_assoc (-k), Int64.add_comm (-r) k, ← Int64.add_assoc (-k), Int64.add_left_neg, Int64.zero_add, Int64.add_assoc, Int64.add_left_neg, Int64.add_zero]
theorem pd__JJJJJJJJJJJJZ_V : parseMethodDescriptor "(JJJJJJJJJJJJZ)V" = some ⟨[.long, .long, .long, .long, .long, .long, .long, .long, .long, .long, .long, .long, .boolean], none⟩ := by decide +kernel
theorem pd___J : parseMethodDescriptor "()J" = some ⟨[], some .long⟩ := by decide +kernel
theorem pf_g0 : plainFor x = true := by first | exact plainFor_of_name (by first | (simp [plainName, overriddenIn]; done) | decide +kernel) | decide +kernel
theorem ef_g0 (m : MethodId) (x1 : Int64) (x2 : Int64) (x3 : Int64) (x4 : Int64) (x5 : Int64) (x6 : Int32) : entryFrame m #[(.long x1), (.long x2), (.long x3), (.long x4), (.long x5), (.int x6)] maxLocals = (mkF m 0 #[.val (.long x1), .second, .val (.long x2), .second, .val (.long x3), .second, .val (.long x4), .second, .val (.long x5), .second, .val (.int x6), .unset, .unset, .unset, .unset] []) := by first | (simp [entryFrame, mkF, argsToLocals, Value.category, maxLocals]; done) | rfl
set_option maxRecDepth 65536 in
set_option maxHeartbeats 40000000 in
theorem g0 (l : Launch) (Z : State) (a0 : Array Value) (hw : ∀ d ∈ tables_1, d.before a0 Z = true) (n0 : Nat) (x1 : Int64) (x2 : Int64) (x3 : Int64) (x4 : Int64) (x5 : Int64) (x6 : Int32)  :
    own_met l Z n0 x code maxLocals ret room_1 #[(.long x1), (.long x2), (.long x3), (.long x4), (.long x5), (.int x6)] [] (fun v _ => v = some (.int 1) ∧ True) := by
  refine own_met.of pf_g0 ?_
  intro p e s m below meth c T0 hx hby hml hret hlk hZ hown hnm A0
  replace hown : s.vm.findClass "com/example/halfpast/halfpast/bench/ResultMissingPinLaw" = some m.cls := hown
  replace hml : c.maxLocals = 15 := hml
  rw [ef_g0 m x1 x2 x3 x4 x5 x6]
  show own_go _ _ _ _ _ _ _ (T0.setTop (mkF m 0 #[.val (.long x1), .second, .val (.long x2), .second, .val (.long x3), .second, .val (.long x4), .second, .val (.long x5), .second, .val (.int x6), .unset, .unset, .unset, .unset] []))
  refine own_by (u' := T0.setTop (mkF m 2 #[.val (.long x1), .second, .val (.long x2), .second, .val (.long x3), .second, .val (.long x4), .second, .val (.long x5), .second, .val (.int x6), .unset, .unset, .unset, .unset] [(.int x6)])) (fun _ k => XS.iload A0.here hx rfl (own_db hby at_0) rfl k) ?_
  refine own_by (u' := T0.setTop (mkF m 3 #[.val (.long x1), .second, .val (.long x2), .second, .val (.long x3), .second, .val (.long x4), .second, .val (.long x5), .second, .val (.int x6), .unset, .unset, .unset, .unset] [(.int (1 : Int32)), (.int x6)])) (fun _ k => XS.iconst A0.here hx rfl (own_db hby at_2) k) ?_
  refine own_by (u' := T0.setTop (mkF m 4 #[.val (.long x1), .second, .val (.long x2), .second, .val (.long x3), .second, .val (.long x4), .second, .val (.long x5), .second, .val (.int x6), .unset, .unset, .unset, .unset] [(.int (x6 &&& (1 : Int32)))])) (fun _ k => XS.iand A0.here hx rfl (own_db hby at_3) rfl k) ?_
  by_cases hc1 : (x6 &&& (1 : Int32)) = (0 : Int32)
  · refine own_by (u' := T0.setTop (mkF m 11 #[.val (.long x1), .second, .val (.long x2), .second, .val (.long x3), .second, .val (.long x4), .second, .val (.long x5), .second, .val (.int x6), .unset, .unset, .unset, .unset] [])) (fun _ k => XS.ifYes A0.here hx rfl (pc0 := 4) (pc' := 11) rfl (own_db hby at_4) rfl ((if0 _ _).trans (teq hc1).1) (by decide) (by decide) k) ?_
    refine own_by (u' := T0.setTop (mkF m 12 #[.val (.long x1), .second, .val (.long x2), .second, .val (.long x3), .second, .val (.long x4), .second, .val (.long x5), .second, .val (.int x6), .unset, .unset, .unset, .unset] [(.int (0 : Int32))])) (fun _ k => XS.iconst A0.here hx rfl (own_db hby at_11) k) ?_
    refine own_by (u' := T0.setTop (mkF m 14 #[.val (.long x1), .second, .val (.long x2), .second, .val (.long x3), .second, .val (.long x4), .second, .val (.long x5), .second, .val (.int x6), .val (.int (0 : Int32)), .unset, .unset, .unset] [])) (fun _ k => XS.istore A0.here hx rfl (own_db hby at_12) rfl (l' := #[.val (.long x1), .second, .val (.long x2), .second, .val (.long x3), .second, .val (.long x4), .second, .val (.long x5), .second, .val (.int x6), .val (.int (0 : Int32)), .unset, .unset, .unset]) rfl k) ?_
    refine own_new (ns := ns_Result) (vs := [(.long (0 : Int64)), (.long (0 : Int64)), (.long (0 : Int64)), (.long (0 : Int64)), (.long (0 : Int64)), (.long (0 : Int64)), (.long (0 : Int64)), (.long (0 : Int64)), (.long (0 : Int64)), (.long (0 : Int64)), (.long (0 : Int64)), (.long (0 : Int64)), (.int (0 : Int32))]) A0 hx hZ hown (hw _ (List.mem_of_getElem? (i := 0) rfl)) (hw _ (List.mem_of_getElem? (i := 1) rfl)) (hw _ (List.mem_of_getElem? (i := 2) rfl)) (own_cons ⟨(Or.inr (hw _ (List.mem_of_getElem? (i := 15) rfl))), .long, by decide, rfl⟩ (own_cons ⟨(Or.inr (hw _ (List.mem_of_getElem? (i := 17) rfl))), .long, by decide, rfl⟩ (own_cons ⟨(Or.inr (hw _ (List.mem_of_getElem? (i := 19) rfl))), .long, by decide, rfl⟩ (own_cons ⟨(Or.inr (hw _ (List.mem_of_getElem? (i := 21) rfl))), .long, by decide, rfl⟩ (own_cons ⟨(Or.inr (hw _ (List.mem_of_getElem? (i := 23) rfl))), .long, by decide, rfl⟩ (own_cons ⟨(Or.inr (hw _ (List.mem_of_getElem? (i := 25) rfl))), .long, by decide, rfl⟩ (own_cons ⟨(Or.inr (hw _ (List.mem_of_getElem? (i := 27) rfl))), .long, by decide, rfl⟩ (own_cons ⟨(Or.inr (hw _ (List.mem_of_getElem? (i := 29) rfl))), .long, by decide, rfl⟩ (own_cons ⟨(Or.inr (hw _ (List.mem_of_getElem? (i := 31) rfl))), .long, by decide, rfl⟩ (own_cons ⟨(Or.inr (hw _ (List.mem_of_getElem? (i := 33) rfl))), .long, by decide, rfl⟩ (own_cons ⟨(Or.inr (hw _ (List.mem_of_getElem? (i := 35) rfl))), .long, by decide, rfl⟩ (own_cons ⟨(Or.inr (hw _ (List.mem_of_getElem? (i := 37) rfl))), .long, by decide, rfl⟩ (own_cons ⟨(Or.inr (hw _ (List.mem_of_getElem? (i := 39) rfl))), .boolean, by decide, rfl⟩ own_nil))))))))))))) (own_db hby at_14) (by decide) (by decide) ?_
    intro T2 A3
    replace A3 : own_at p l e _ s m _ below meth c n0 T2 1 13 [(own_obj Z "com/example/halfpast/halfpast/bench/Result" ns_Result [(.long (0 : Int64)), (.long (0 : Int64)), (.long (0 : Int64)), (.long (0 : Int64)), (.long (0 : Int64)), (.long (0 : Int64)), (.long (0 : Int64)), (.long (0 : Int64)), (.long (0 : Int64)), (.long (0 : Int64)), (.long (0 : Int64)), (.long (0 : Int64)), (.int (0 : Int32))])] := A3
    show own_go _ _ _ _ _ _ _ (T2.setTop (mkF m 17 #[.val (.long x1), .second, .val (.long x2), .second, .val (.long x3), .second, .val (.long x4), .second, .val (.long x5), .second, .val (.int x6), .val (.int (0 : Int32)), .unset, .unset, .unset] [(.ref (n0 + 0))]))
    refine own_by (u' := T2.setTop (mkF m 18 #[.val (.long x1), .second, .val (.long x2), .second, .val (.long x3), .second, .val (.long x4), .second, .val (.long x5), .second, .val (.int x6), .val (.int (0 : Int32)), .unset, .unset, .unset] [(.ref (n0 + 0)), (.ref (n0 + 0))])) (fun _ k => XS.dup A3.here hx rfl (own_db hby at_17) rfl rfl k) ?_
    refine own_by (u' := T2.setTop (mkF m 19 #[.val (.long x1), .second, .val (.long x2), .second, .val (.long x3), .second, .val (.long x4), .second, .val (.long x5), .second, .val (.int x6), .val (.int (0 : Int32)), .unset, .unset, .unset] [(.long x1), (.ref (n0 + 0)), (.ref (n0 + 0))])) (fun _ k => XS.lloadN A3.here hx rfl (own_db hby at_18) rfl k) ?_
    refine own_by (u' := T2.setTop (mkF m 21 #[.val (.long x1), .second, .val (.long x2), .second, .val (.long x3), .second, .val (.long x4), .second, .val (.long x5), .second, .val (.int x6), .val (.int (0 : Int32)), .unset, .unset, .unset] [(.long x4), (.long x1), (.ref (n0 + 0)), (.ref (n0 + 0))])) (fun _ k => XS.lload A3.here hx rfl (own_db hby at_19) rfl k) ?_
    refine own_by (u' := T2.setTop (mkF m 23 #[.val (.long x1), .second, .val (.long x2), .second, .val (.long x3), .second, .val (.long x4), .second, .val (.long x5), .second, .val (.int x6), .val (.int (0 : Int32)), .unset, .unset, .unset] [(.long x5), (.long x4), (.long x1), (.ref (n0 + 0)), (.ref (n0 + 0))])) (fun _ k => XS.lload A3.here hx rfl (own_db hby at_21) rfl k) ?_
    refine own_by (u' := T2.setTop (mkF m 25 #[.val (.long x1), .second, .val (.long x2), .second, .val (.long x3), .second, .val (.long x4), .second, .val (.long x5), .second, .val (.int x6), .val (.int (0 : Int32)), .unset, .unset, .unset] [(.long x4), (.long x5), (.long x4), (.long x1), (.ref (n0 + 0)), (.ref (n0 + 0))])) (fun _ k => XS.lload A3.here hx rfl (own_db hby at_23) rfl k) ?_
    refine own_by (u' := T2.setTop (mkF m 27 #[.val (.long x1), .second, .val (.long x2), .second, .val (.long x3), .second, .val (.long x4), .second, .val (.long x5), .second, .val (.int x6), .val (.int (0 : Int32)), .unset, .unset, .unset] [(.long x5), (.long x4), (.long x5), (.long x4), (.long x1), (.ref (n0 + 0)), (.ref (n0 + 0))])) (fun _ k => XS.lload A3.here hx rfl (own_db hby at_25) rfl k) ?_
    refine own_by (u' := T2.setTop (mkF m 28 #[.val (.long x1), .second, .val (.long x2), .second, .val (.long x3), .second, .val (.long x4), .second, .val (.long x5), .second, .val (.int x6), .val (.int (0 : Int32)), .unset, .unset, .unset] [(.long (x4 ^^^ x5)), (.long x5), (.long x4), (.long x1), (.ref (n0 + 0)), (.ref (n0 + 0))])) (fun _ k => XS.lxor A3.here hx rfl (own_db hby at_27) rfl k) ?_
    refine own_by (u' := T2.setTop (mkF m 29 #[.val (.long x1), .second, .val (.long x2), .second, .val (.long x3), .second, .val (.long x4), .second, .val (.long x5), .second, .val (.int x6), .val (.int (0 : Int32)), .unset, .unset, .unset] [(.long x2), (.long (x4 ^^^ x5)), (.long x5), (.long x4), (.long x1), (.ref (n0 + 0)), (.ref (n0 + 0))])) (fun _ k => XS.lloadN A3.here hx rfl (own_db hby at_28) rfl k) ?_
    refine own_by (u' := T2.setTop (mkF m 31 #[.val (.long x1), .second, .val (.long x2), .second, .val (.long x3), .second, .val (.long x4), .second, .val (.long x5), .second, .val (.int x6), .val (.int (0 : Int32)), .unset, .unset, .unset] [(.long x3), (.long x2), (.long (x4 ^^^ x5)), (.long x5), (.long x4), (.long x1), (.ref (n0 + 0)), (.ref (n0 + 0))])) (fun _ k => XS.lload A3.here hx rfl (own_db hby at_29) rfl k) ?_
    refine own_by (u' := T2.setTop (mkF m 33 #[.val (.long x1), .second, .val (.long x2), .second, .val (.long x3), .second, .val (.long x4), .second, .val (.long x5), .second, .val (.int x6), .val (.int (0 : Int32)), .unset, .unset, .unset] [(.long x4), (.long x3), (.long x2), (.long (x4 ^^^ x5)), (.long x5), (.long x4), (.long x1), (.ref (n0 + 0)), (.ref (n0 + 0))])) (fun _ k => XS.lload A3.here hx rfl (own_db hby at_31) rfl k) ?_
    refine own_by (u' := T2.setTop (mkF m 35 #[.val (.long x1), .second, .val (.long x2), .second, .val (.long x3), .second, .val (.long x4), .second, .val (.long x5), .second, .val (.int x6), .val (.int (0 : Int32)), .unset, .unset, .unset] [(.long x5), (.long x4), (.long x3), (.long x2), (.long (x4 ^^^ x5)), (.long x5), (.long x4), (.long x1), (.ref (n0 + 0)), (.ref (n0 + 0))])) (fun _ k => XS.lload A3.here hx rfl (own_db hby at_33) rfl k) ?_
    refine own_by (u' := T2.setTop (mkF m 37 #[.val (.long x1), .second, .val (.long x2), .second, .val (.long x3), .second, .val (.long x4), .second, .val (.long x5), .second, .val (.int x6), .val (.int (0 : Int32)), .unset, .unset, .unset] [(.long x4), (.long x5), (.long x4), (.long x3), (.long x2), (.long (x4 ^^^ x5)), (.long x5), (.long x4), (.long x1), (.ref (n0 + 0)), (.ref (n0 + 0))])) (fun _ k => XS.lload A3.here hx rfl (own_db hby at_35) rfl k) ?_
    refine own_by (u' := T2.setTop (mkF m 39 #[.val (.long x1), .second, .val (.long x2), .second, .val (.long x3), .second, .val (.long x4), .second, .val (.long x5), .second, .val (.int x6), .val (.int (0 : Int32)), .unset, .unset, .unset] [(.long x5), (.long x4), (.long x5), (.long x4), (.long x3), (.long x2), (.long (x4 ^^^ x5)), (.long x5), (.long x4), (.long x1), (.ref (n0 + 0)), (.ref (n0 + 0))])) (fun _ k => XS.lload A3.here hx rfl (own_db hby at_37) rfl k) ?_
    refine own_by (u' := T2.setTop (mkF m 40 #[.val (.long x1), .second, .val (.long x2), .second, .val (.long x3), .second, .val (.long x4), .second, .val (.long x5), .second, .val (.int x6), .val (.int (0 : Int32)), .unset, .unset, .unset] [(.long (x4 + x5)), (.long x5), (.long x4), (.long x3), (.long x2), (.long (x4 ^^^ x5)), (.long x5), (.long x4), (.long x1), (.ref (n0 + 0)), (.ref (n0 + 0))])) (fun _ k => XS.ladd A3.here hx rfl (own_db hby at_39) rfl k) ?_
    refine own_by (u' := T2.setTop (mkF m 42 #[.val (.long x1), .second, .val (.long x2), .second, .val (.long x3), .second, .val (.long x4), .second, .val (.long x5), .second, .val (.int x6), .val (.int (0 : Int32)), .unset, .unset, .unset] [(.long x4), (.long (x4 + x5)), (.long x5), (.long x4), (.long x3), (.long x2), (.long (x4 ^^^ x5)), (.long x5), (.long x4), (.long x1), (.ref (n0 + 0)), (.ref (n0 + 0))])) (fun _ k => XS.lload A3.here hx rfl (own_db hby at_40) rfl k) ?_
    refine own_by (u' := T2.setTop (mkF m 44 #[.val (.long x1), .second, .val (.long x2), .second, .val (.long x3), .second, .val (.long x4), .second, .val (.long x5), .second, .val (.int x6), .val (.int (0 : Int32)), .unset, .unset, .unset] [(.long x5), (.long x4), (.long (x4 + x5)), (.long x5), (.long x4), (.long x3), (.long x2), (.long (x4 ^^^ x5)), (.long x5), (.long x4), (.long x1), (.ref (n0 + 0)), (.ref (n0 + 0))])) (fun _ k => XS.lload A3.here hx rfl (own_db hby at_42) rfl k) ?_
    refine own_by (u' := T2.setTop (mkF m 45 #[.val (.long x1), .second, .val (.long x2), .second, .val (.long x3), .second, .val (.long x4), .second, .val (.long x5), .second, .val (.int x6), .val (.int (0 : Int32)), .unset, .unset, .unset] [(.long (x4 - x5)), (.long (x4 + x5)), (.long x5), (.long x4), (.long x3), (.long x2), (.long (x4 ^^^ x5)), (.long x5), (.long x4), (.long x1), (.ref (n0 + 0)), (.ref (n0 + 0))])) (fun _ k => XS.lsub A3.here hx rfl (own_db hby at_44) rfl k) ?_
    refine own_by (u' := T2.setTop (mkF m 47 #[.val (.long x1), .second, .val (.long x2), .second, .val (.long x3), .second, .val (.long x4), .second, .val (.long x5), .second, .val (.int x6), .val (.int (0 : Int32)), .unset, .unset, .unset] [(.long x5), (.long (x4 - x5)), (.long (x4 + x5)), (.long x5), (.long x4), (.long x3), (.long x2), (.long (x4 ^^^ x5)), (.long x5), (.long x4), (.long x1), (.ref (n0 + 0)), (.ref (n0 + 0))])) (fun _ k => XS.lload A3.here hx rfl (own_db hby at_45) rfl k) ?_
    refine own_by (u' := T2.setTop (mkF m 49 #[.val (.long x1), .second, .val (.long x2), .second, .val (.long x3), .second, .val (.long x4), .second, .val (.long x5), .second, .val (.int x6), .val (.int (0 : Int32)), .unset, .unset, .unset] [(.long x4), (.long x5), (.long (x4 - x5)), (.long (x4 + x5)), (.long x5), (.long x4), (.long x3), (.long x2), (.long (x4 ^^^ x5)), (.long x5), (.long x4), (.long x1), (.ref (n0 + 0)), (.ref (n0 + 0))])) (fun _ k => XS.lload A3.here hx rfl (own_db hby at_47) rfl k) ?_
    refine own_by (u' := T2.setTop (mkF m 51 #[.val (.long x1), .second, .val (.long x2), .second, .val (.long x3), .second, .val (.long x4), .second, .val (.long x5), .second, .val (.int x6), .val (.int (0 : Int32)), .unset, .unset, .unset] [(.int (0 : Int32)), (.long x4), (.long x5), (.long (x4 - x5)), (.long (x4 + x5)), (.long x5), (.long x4), (.long x3), (.long x2), (.long (x4 ^^^ x5)), (.long x5), (.long x4), (.long x1), (.ref (n0 + 0)), (.ref (n0 + 0))])) (fun _ k => XS.iload A3.here hx rfl (own_db hby at_49) rfl k) ?_
    refine own_callC (y := (⟨"com/example/halfpast/halfpast/bench/Result", "<init>", "(JJJJJJJJJJJJZ)V"⟩ : MethodName)) (rest := [(.ref (n0 + 0))]) A3 hx hZ hown rfl (hw _ (List.mem_of_getElem? (i := 3) rfl)) (hw _ (List.mem_of_getElem? (i := 4) rfl)) (hw _ (List.mem_of_getElem? (i := 2) rfl)) (hw _ (List.mem_of_getElem? (i := 5) rfl)) (by decide) (g1 l Z a0 hw n0 [(own_obj Z "com/example/halfpast/halfpast/bench/Result" ns_Result [(.long (0 : Int64)), (.long (0 : Int64)), (.long (0 : Int64)), (.long (0 : Int64)), (.long (0 : Int64)), (.long (0 : Int64)), (.long (0 : Int64)), (.long (0 : Int64)), (.long (0 : Int64)), (.long (0 : Int64)), (.long (0 : Int64)), (.long (0 : Int64)), (.int (0 : Int32))])] 0 x1 x4 x5 (x4 ^^^ x5) x2 x3 x4 x5 (x4 + x5) (x4 - x5) x5 x4 (0 : Int32) rfl) (by rw [hml]; rfl) (n0 + 0) [(.long x1), (.long x4), (.long x5), (.long (x4 ^^^ x5)), (.long x2), (.long x3), (.long x4), (.long x5), (.long (x4 + x5)), (.long (x4 - x5)), (.long x5), (.long x4), (.int (0 : Int32))] rfl rfl pd__JJJJJJJJJJJJZ_V rfl (W := 1) (by show 2 * 0 + _ ≤ _; exact Nat.le_of_eq rfl) (own_db hby at_51) (by decide) (by decide) (by decide) (by decide) ?_
    intro v4 i5 T7 hq6 A8
    obtain ⟨rfl, he9⟩ := hq6
    rw [he9] at A8
    replace A8 : own_at p l e _ s m _ below meth c n0 T7 1 13 [(own_obj Z "com/example/halfpast/halfpast/bench/Result" ns_Result [(.long x1), (.long x4), (.long x5), (.long (x4 ^^^ x5)), (.long x2), (.long x3), (.long x4), (.long x5), (.long (x4 + x5)), (.long (x4 - x5)), (.long x5), (.long x4), (.int (0 : Int32))])] := A8
    show own_go _ _ _ _ _ _ _ (T7.setTop (mkF m 54 #[.val (.long x1), .second, .val (.long x2), .second, .val (.long x3), .second, .val (.long x4), .second, .val (.long x5), .second, .val (.int x6), .val (.int (0 : Int32)), .unset, .unset, .unset] [(.ref (n0 + 0))]))
    refine own_by (u' := T7.setTop (mkF m 56 #[.val (.long x1), .second, .val (.long x2), .second, .val (.long x3), .second, .val (.long x4), .second, .val (.long x5), .second, .val (.int x6), .val (.int (0 : Int32)), .val (.ref (n0 + 0)), .unset, .unset] [])) (fun _ k => XS.astore A8.here hx rfl (own_db hby at_54) rfl rfl (l' := #[.val (.long x1), .second, .val (.long x2), .second, .val (.long x3), .second, .val (.long x4), .second, .val (.long x5), .second, .val (.int x6), .val (.int (0 : Int32)), .val (.ref (n0 + 0)), .unset, .unset]) rfl k) ?_
    refine own_by (u' := T7.setTop (mkF m 58 #[.val (.long x1), .second, .val (.long x2), .second, .val (.long x3), .second, .val (.long x4), .second, .val (.long x5), .second, .val (.int x6), .val (.int (0 : Int32)), .val (.ref (n0 + 0)), .unset, .unset] [(.ref (n0 + 0))])) (fun _ k => XS.aload A8.here hx rfl (own_db hby at_56) rfl rfl k) ?_
    refine own_callV (y := (⟨"com/example/halfpast/halfpast/bench/Result", "missing", "()J"⟩ : MethodName)) (rest := []) A8 hx hZ hown (hw _ (List.mem_of_getElem? (i := 40) rfl)) (hw _ (List.mem_of_getElem? (i := 41) rfl)) (hw _ (List.mem_of_getElem? (i := 43) rfl)) (hw _ (List.mem_of_getElem? (i := 42) rfl)) (hw _ (List.mem_of_getElem? (i := 2) rfl)) (hw _ (List.mem_of_getElem? (i := 44) rfl)) (by decide) (i := 0) rfl (g2 l Z a0 hw n0 [(own_obj Z "com/example/halfpast/halfpast/bench/Result" ns_Result [(.long x1), (.long x4), (.long x5), (.long (x4 ^^^ x5)), (.long x2), (.long x3), (.long x4), (.long x5), (.long (x4 + x5)), (.long (x4 - x5)), (.long x5), (.long x4), (.int (0 : Int32))])] 0 x1 x4 x5 (x4 ^^^ x5) x2 x3 x4 x5 (x4 + x5) (x4 - x5) x5 x4 (0 : Int32)  rfl) (by rw [hml]; rfl) [] rfl rfl pd___J rfl (W := 0) (by show 2 * 0 + _ ≤ _; exact Nat.le_of_eq rfl) (own_db hby at_58) (by decide) (by decide) (by decide) (by decide) ?_
    intro v10 i11 T13 hq12 A14
    obtain ⟨rfl, he15⟩ := hq12
    rw [he15] at A14
    replace A14 : own_at p l e _ s m _ below meth c n0 T13 1 13 [(own_obj Z "com/example/halfpast/halfpast/bench/Result" ns_Result [(.long x1), (.long x4), (.long x5), (.long (x4 ^^^ x5)), (.long x2), (.long x3), (.long x4), (.long x5), (.long (x4 + x5)), (.long (x4 - x5)), (.long x5), (.long x4), (.int (0 : Int32))])] := A14
    show own_go _ _ _ _ _ _ _ (T13.setTop (mkF m 61 #[.val (.long x1), .second, .val (.long x2), .second, .val (.long x3), .second, .val (.long x4), .second, .val (.long x5), .second, .val (.int x6), .val (.int (0 : Int32)), .val (.ref (n0 + 0)), .unset, .unset] [(.long (f2 x1 x2 x3))]))
    refine own_by (u' := T13.setTop (mkF m 63 #[.val (.long x1), .second, .val (.long x2), .second, .val (.long x3), .second, .val (.long x4), .second, .val (.long x5), .second, .val (.int x6), .val (.int (0 : Int32)), .val (.ref (n0 + 0)), .val (.long (f2 x1 x2 x3)), .second] [])) (fun _ k => XS.lstore A14.here hx rfl (own_db hby at_61) rfl (l' := #[.val (.long x1), .second, .val (.long x2), .second, .val (.long x3), .second, .val (.long x4), .second, .val (.long x5), .second, .val (.int x6), .val (.int (0 : Int32)), .val (.ref (n0 + 0)), .val (.long (f2 x1 x2 x3)), .second]) rfl k) ?_
    refine own_by (u' := T13.setTop (mkF m 65 #[.val (.long x1), .second, .val (.long x2), .second, .val (.long x3), .second, .val (.long x4), .second, .val (.long x5), .second, .val (.int x6), .val (.int (0 : Int32)), .val (.ref (n0 + 0)), .val (.long (f2 x1 x2 x3)), .second] [(.long (f2 x1 x2 x3))])) (fun _ k => XS.lload A14.here hx rfl (own_db hby at_63) rfl k) ?_
    refine own_by (u' := T13.setTop (mkF m 66 #[.val (.long x1), .second, .val (.long x2), .second, .val (.long x3), .second, .val (.long x4), .second, .val (.long x5), .second, .val (.int x6), .val (.int (0 : Int32)), .val (.ref (n0 + 0)), .val (.long (f2 x1 x2 x3)), .second] [(.long x2), (.long (f2 x1 x2 x3))])) (fun _ k => XS.lloadN A14.here hx rfl (own_db hby at_65) rfl k) ?_
    refine own_by (u' := T13.setTop (mkF m 67 #[.val (.long x1), .second, .val (.long x2), .second, .val (.long x3), .second, .val (.long x4), .second, .val (.long x5), .second, .val (.int x6), .val (.int (0 : Int32)), .val (.ref (n0 + 0)), .val (.long (f2 x1 x2 x3)), .second] [(.long ((f2 x1 x2 x3) + x2))])) (fun _ k => XS.ladd A14.here hx rfl (own_db hby at_66) rfl k) ?_
    refine own_by (u' := T13.setTop (mkF m 69 #[.val (.long x1), .second, .val (.long x2), .second, .val (.long x3), .second, .val (.long x4), .second, .val (.long x5), .second, .val (.int x6), .val (.int (0 : Int32)), .val (.ref (n0 + 0)), .val (.long (f2 x1 x2 x3)), .second] [(.long x3), (.long ((f2 x1 x2 x3) + x2))])) (fun _ k => XS.lload A14.here hx rfl (own_db hby at_67) rfl k) ?_
    refine own_by (u' := T13.setTop (mkF m 70 #[.val (.long x1), .second, .val (.long x2), .second, .val (.long x3), .second, .val (.long x4), .second, .val (.long x5), .second, .val (.int x6), .val (.int (0 : Int32)), .val (.ref (n0 + 0)), .val (.long (f2 x1 x2 x3)), .second] [(.long (((f2 x1 x2 x3) + x2) + x3))])) (fun _ k => XS.ladd A14.here hx rfl (own_db hby at_69) rfl k) ?_
    refine own_by (u' := T13.setTop (mkF m 71 #[.val (.long x1), .second, .val (.long x2), .second, .val (.long x3), .second, .val (.long x4), .second, .val (.long x5), .second, .val (.int x6), .val (.int (0 : Int32)), .val (.ref (n0 + 0)), .val (.long (f2 x1 x2 x3)), .second] [(.long x1), (.long (((f2 x1 x2 x3) + x2) + x3))])) (fun _ k => XS.lloadN A14.here hx rfl (own_db hby at_70) rfl k) ?_
    refine own_by (u' := T13.setTop (mkF m 72 #[.val (.long x1), .second, .val (.long x2), .second, .val (.long x3), .second, .val (.long x4), .second, .val (.long x5), .second, .val (.int x6), .val (.int (0 : Int32)), .val (.ref (n0 + 0)), .val (.long (f2 x1 x2 x3)), .second] [(.int (lcmpW (((f2 x1 x2 x3) + x2) + x3) x1))])) (fun _ k => XS.lcmp A14.here hx rfl (own_db hby at_71) rfl k) ?_
    refine own_by (u' := T13.setTop (mkF m 75 #[.val (.long x1), .second, .val (.long x2), .second, .val (.long x3), .second, .val (.long x4), .second, .val (.long x5), .second, .val (.int x6), .val (.int (0 : Int32)), .val (.ref (n0 + 0)), .val (.long (f2 x1 x2 x3)), .second] [])) (fun _ k => XS.ifNo A14.here hx rfl (own_db hby at_72) rfl ((if0 _ _).trans (teq (own_lc_eq (own_sum _ _ _))).2) k) ?_
    refine own_by (u' := T13.setTop (mkF m 76 #[.val (.long x1), .second, .val (.long x2), .second, .val (.long x3), .second, .val (.long x4), .second, .val (.long x5), .second, .val (.int x6), .val (.int (0 : Int32)), .val (.ref (n0 + 0)), .val (.long (f2 x1 x2 x3)), .second] [(.int (1 : Int32))])) (fun _ k => XS.iconst A14.here hx rfl (own_db hby at_75) k) ?_
    refine own_by (u' := T13.setTop (mkF m 80 #[.val (.long x1), .second, .val (.long x2), .second, .val (.long x3), .second, .val (.long x4), .second, .val (.long x5), .second, .val (.int x6), .val (.int (0 : Int32)), .val (.ref (n0 + 0)), .val (.long (f2 x1 x2 x3)), .second] [(.int (1 : Int32))])) (fun _ k => XS.goto A14.here hx rfl (pc0 := 76) (pc' := 80) rfl (own_db hby at_76) (by decide) (by decide) k) ?_
    exact own_retN A14 hx hlk (t := .boolean) (by simp) hret (own_db hby at_80) (by decide) (by decide) ⟨rfl, trivial⟩
  · refine own_by (u' := T0.setTop (mkF m 7 #[.val (.long x1), .second, .val (.long x2), .second, .val (.long x3), .second, .val (.long x4), .second, .val (.long x5), .second, .val (.int x6), .unset, .unset, .unset, .unset] [])) (fun _ k => XS.ifNo A0.here hx rfl (own_db hby at_4) rfl ((if0 _ _).trans (feq hc1).1) k) ?_
    refine own_by (u' := T0.setTop (mkF m 8 #[.val (.long x1), .second, .val (.long x2), .second, .val (.long x3), .second, .val (.long x4), .second, .val (.long x5), .second, .val (.int x6), .unset, .unset, .unset, .unset] [(.int (1 : Int32))])) (fun _ k => XS.iconst A0.here hx rfl (own_db hby at_7) k) ?_
    refine own_by (u' := T0.setTop (mkF m 12 #[.val (.long x1), .second, .val (.long x2), .second, .val (.long x3), .second, .val (.long x4), .second, .val (.long x5), .second, .val (.int x6), .unset, .unset, .unset, .unset] [(.int (1 : Int32))])) (fun _ k => XS.goto A0.here hx rfl (pc0 := 8) (pc' := 12) rfl (own_db hby at_8) (by decide) (by decide) k) ?_
    refine own_by (u' := T0.setTop (mkF m 14 #[.val (.long x1), .second, .val (.long x2), .second, .val (.long x3), .second, .val (.long x4), .second, .val (.long x5), .second, .val (.int x6), .val (.int (1 : Int32)), .unset, .unset, .unset] [])) (fun _ k => XS.istore A0.here hx rfl (own_db hby at_12) rfl (l' := #[.val (.long x1), .second, .val (.long x2), .second, .val (.long x3), .second, .val (.long x4), .second, .val (.long x5), .second, .val (.int x6), .val (.int (1 : Int32)), .unset, .unset, .unset]) rfl k) ?_
    refine own_new (ns := ns_Result) (vs := [(.long (0 : Int64)), (.long (0 : Int64)), (.long (0 : Int64)), (.long (0 : Int64)), (.long (0 : Int64)), (.long (0 : Int64)), (.long (0 : Int64)), (.long (0 : Int64)), (.long (0 : Int64)), (.long (0 : Int64)), (.long (0 : Int64)), (.long (0 : Int64)), (.int (0 : Int32))]) A0 hx hZ hown (hw _ (List.mem_of_getElem? (i := 0) rfl)) (hw _ (List.mem_of_getElem? (i := 1) rfl)) (hw _ (List.mem_of_getElem? (i := 2) rfl)) (own_cons ⟨(Or.inr (hw _ (List.mem_of_getElem? (i := 15) rfl))), .long, by decide, rfl⟩ (own_cons ⟨(Or.inr (hw _ (List.mem_of_getElem? (i := 17) rfl))), .long, by decide, rfl⟩ (own_cons ⟨(Or.inr (hw _ (List.mem_of_getElem? (i := 19) rfl))), .long, by decide, rfl⟩ (own_cons ⟨(Or.inr (hw _ (List.mem_of_getElem? (i := 21) rfl))), .long, by decide, rfl⟩ (own_cons ⟨(Or.inr (hw _ (List.mem_of_getElem? (i := 23) rfl))), .long, by decide, rfl⟩ (own_cons ⟨(Or.inr (hw _ (List.mem_of_getElem? (i := 25) rfl))), .long, by decide, rfl⟩ (own_cons ⟨(Or.inr (hw _ (List.mem_of_getElem? (i := 27) rfl))), .long, by decide, rfl⟩ (own_cons ⟨(Or.inr (hw _ (List.mem_of_getElem? (i := 29) rfl))), .long, by decide, rfl⟩ (own_cons ⟨(Or.inr (hw _ (List.mem_of_getElem? (i := 31) rfl))), .long, by decide, rfl⟩ (own_cons ⟨(Or.inr (hw _ (List.mem_of_getElem? (i := 33) rfl))), .long, by decide, rfl⟩ (own_cons ⟨(Or.inr (hw _ (List.mem_of_getElem? (i := 35) rfl))), .long, by decide, rfl⟩ (own_cons ⟨(Or.inr (hw _ (List.mem_of_getElem? (i := 37) rfl))), .long, by decide, rfl⟩ (own_cons ⟨(Or.inr (hw _ (List.mem_of_getElem? (i := 39) rfl))), .boolean, by decide, rfl⟩ own_nil))))))))))))) (own_db hby at_14) (by decide) (by decide) ?_
    intro T16 A17
    replace A17 : own_at p l e _ s m _ below meth c n0 T16 1 13 [(own_obj Z "com/example/halfpast/halfpast/bench/Result" ns_Result [(.long (0 : Int64)), (.long (0 : Int64)), (.long (0 : Int64)), (.long (0 : Int64)), (.long (0 : Int64)), (.long (0 : Int64)), (.long (0 : Int64)), (.long (0 : Int64)), (.long (0 : Int64)), (.long (0 : Int64)), (.long (0 : Int64)), (.long (0 : Int64)), (.int (0 : Int32))])] := A17
    show own_go _ _ _ _ _ _ _ (T16.setTop (mkF m 17 #[.val (.long x1), .second, .val (.long x2), .second, .val (.long x3), .second, .val (.long x4), .second, .val (.long x5), .second, .val (.int x6), .val (.int (1 : Int32)), .unset, .unset, .unset] [(.ref (n0 + 0))]))
    refine own_by (u' := T16.setTop (mkF m 18 #[.val (.long x1), .second, .val (.long x2), .second, .val (.long x3), .second, .val (.long x4), .second, .val (.long x5), .second, .val (.int x6), .val (.int (1 : Int32)), .unset, .unset, .unset] [(.ref (n0 + 0)), (.ref (n0 + 0))])) (fun _ k => XS.dup A17.here hx rfl (own_db hby at_17) rfl rfl k) ?_
    refine own_by (u' := T16.setTop (mkF m 19 #[.val (.long x1), .second, .val (.long x2), .second, .val (.long x3), .second, .val (.long x4), .second, .val (.long x5), .second, .val (.int x6), .val (.int (1 : Int32)), .unset, .unset, .unset] [(.long x1), (.ref (n0 + 0)), (.ref (n0 + 0))])) (fun _ k => XS.lloadN A17.here hx rfl (own_db hby at_18) rfl k) ?_
    refine own_by (u' := T16.setTop (mkF m 21 #[.val (.long x1), .second, .val (.long x2), .second, .val (.long x3), .second, .val (.long x4), .second, .val (.long x5), .second, .val (.int x6), .val (.int (1 : Int32)), .unset, .unset, .unset] [(.long x4), (.long x1), (.ref (n0 + 0)), (.ref (n0 + 0))])) (fun _ k => XS.lload A17.here hx rfl (own_db hby at_19) rfl k) ?_
    refine own_by (u' := T16.setTop (mkF m 23 #[.val (.long x1), .second, .val (.long x2), .second, .val (.long x3), .second, .val (.long x4), .second, .val (.long x5), .second, .val (.int x6), .val (.int (1 : Int32)), .unset, .unset, .unset] [(.long x5), (.long x4), (.long x1), (.ref (n0 + 0)), (.ref (n0 + 0))])) (fun _ k => XS.lload A17.here hx rfl (own_db hby at_21) rfl k) ?_
    refine own_by (u' := T16.setTop (mkF m 25 #[.val (.long x1), .second, .val (.long x2), .second, .val (.long x3), .second, .val (.long x4), .second, .val (.long x5), .second, .val (.int x6), .val (.int (1 : Int32)), .unset, .unset, .unset] [(.long x4), (.long x5), (.long x4), (.long x1), (.ref (n0 + 0)), (.ref (n0 + 0))])) (fun _ k => XS.lload A17.here hx rfl (own_db hby at_23) rfl k) ?_
    refine own_by (u' := T16.setTop (mkF m 27 #[.val (.long x1), .second, .val (.long x2), .second, .val (.long x3), .second, .val (.long x4), .second, .val (.long x5), .second, .val (.int x6), .val (.int (1 : Int32)), .unset, .unset, .unset] [(.long x5), (.long x4), (.long x5), (.long x4), (.long x1), (.ref (n0 + 0)), (.ref (n0 + 0))])) (fun _ k => XS.lload A17.here hx rfl (own_db hby at_25) rfl k) ?_
    refine own_by (u' := T16.setTop (mkF m 28 #[.val (.long x1), .second, .val (.long x2), .second, .val (.long x3), .second, .val (.long x4), .second, .val (.long x5), .second, .val (.int x6), .val (.int (1 : Int32)), .unset, .unset, .unset] [(.long (x4 ^^^ x5)), (.long x5), (.long x4), (.long x1), (.ref (n0 + 0)), (.ref (n0 + 0))])) (fun _ k => XS.lxor A17.here hx rfl (own_db hby at_27) rfl k) ?_
    refine own_by (u' := T16.setTop (mkF m 29 #[.val (.long x1), .second, .val (.long x2), .second, .val (.long x3), .second, .val (.long x4), .second, .val (.long x5), .second, .val (.int x6), .val (.int (1 : Int32)), .unset, .unset, .unset] [(.long x2), (.long (x4 ^^^ x5)), (.long x5), (.long x4), (.long x1), (.ref (n0 + 0)), (.ref (n0 + 0))])) (fun _ k => XS.lloadN A17.here hx rfl (own_db hby at_28) rfl k) ?_
    refine own_by (u' := T16.setTop (mkF m 31 #[.val (.long x1), .second, .val (.long x2), .second, .val (.long x3), .second, .val (.long x4), .second, .val (.long x5), .second, .val (.int x6), .val (.int (1 : Int32)), .unset, .unset, .unset] [(.long x3), (.long x2), (.long (x4 ^^^ x5)), (.long x5), (.long x4), (.long x1), (.ref (n0 + 0)), (.ref (n0 + 0))])) (fun _ k => XS.lload A17.here hx rfl (own_db hby at_29) rfl k) ?_
    refine own_by (u' := T16.setTop (mkF m 33 #[.val (.long x1), .second, .val (.long x2), .second, .val (.long x3), .second, .val (.long x4), .second, .val (.long x5), .second, .val (.int x6), .val (.int (1 : Int32)), .unset, .unset, .unset] [(.long x4), (.long x3), (.long x2), (.long (x4 ^^^ x5)), (.long x5), (.long x4), (.long x1), (.ref (n0 + 0)), (.ref (n0 + 0))])) (fun _ k => XS.lload A17.here hx rfl (own_db hby at_31) rfl k) ?_
    refine own_by (u' := T16.setTop (mkF m 35 #[.val (.long x1), .second, .val (.long x2), .second, .val (.long x3), .second, .val (.long x4), .second, .val (.long x5), .second, .val (.int x6), .val (.int (1 : Int32)), .unset, .unset, .unset] [(.long x5), (.long x4), (.long x3), (.long x2), (.long (x4 ^^^ x5)), (.long x5), (.long x4), (.long x1), (.ref (n0 + 0)), (.ref (n0 + 0))])) (fun _ k => XS.lload A17.here hx rfl (own_db hby at_33) rfl k) ?_
    refine own_by (u' := T16.setTop (mkF m 37 #[.val (.long x1), .second, .val (.long x2), .second, .val (.long x3), .second, .val (.long x4), .second, .val (.long x5), .second, .val (.int x6), .val (.int (1 : Int32)), .unset, .unset, .unset] [(.long x4), (.long x5), (.long x4), (.long x3), (.long x2), (.long (x4 ^^^ x5)), (.long x5), (.long x4), (.long x1), (.ref (n0 + 0)), (.ref (n0 + 0))])) (fun _ k => XS.lload A17.here hx rfl (own_db hby at_35) rfl k) ?_
    refine own_by (u' := T16.setTop (mkF m 39 #[.val (.long x1), .second, .val (.long x2), .second, .val (.long x3), .second, .val (.long x4), .second, .val (.long x5), .second, .val (.int x6), .val (.int (1 : Int32)), .unset, .unset, .unset] [(.long x5), (.long x4), (.long x5), (.long x4), (.long x3), (.long x2), (.long (x4 ^^^ x5)), (.long x5), (.long x4), (.long x1), (.ref (n0 + 0)), (.ref (n0 + 0))])) (fun _ k => XS.lload A17.here hx rfl (own_db hby at_37) rfl k) ?_
    refine own_by (u' := T16.setTop (mkF m 40 #[.val (.long x1), .second, .val (.long x2), .second, .val (.long x3), .second, .val (.long x4), .second, .val (.long x5), .second, .val (.int x6), .val (.int (1 : Int32)), .unset, .unset, .unset] [(.long (x4 + x5)), (.long x5), (.long x4), (.long x3), (.long x2), (.long (x4 ^^^ x5)), (.long x5), (.long x4), (.long x1), (.ref (n0 + 0)), (.ref (n0 + 0))])) (fun _ k => XS.ladd A17.here hx rfl (own_db hby at_39) rfl k) ?_
    refine own_by (u' := T16.setTop (mkF m 42 #[.val (.long x1), .second, .val (.long x2), .second, .val (.long x3), .second, .val (.long x4), .second, .val (.long x5), .second, .val (.int x6), .val (.int (1 : Int32)), .unset, .unset, .unset] [(.long x4), (.long (x4 + x5)), (.long x5), (.long x4), (.long x3), (.long x2), (.long (x4 ^^^ x5)), (.long x5), (.long x4), (.long x1), (.ref (n0 + 0)), (.ref (n0 + 0))])) (fun _ k => XS.lload A17.here hx rfl (own_db hby at_40) rfl k) ?_
    refine own_by (u' := T16.setTop (mkF m 44 #[.val (.long x1), .second, .val (.long x2), .second, .val (.long x3), .second, .val (.long x4), .second, .val (.long x5), .second, .val (.int x6), .val (.int (1 : Int32)), .unset, .unset, .unset] [(.long x5), (.long x4), (.long (x4 + x5)), (.long x5), (.long x4), (.long x3), (.long x2), (.long (x4 ^^^ x5)), (.long x5), (.long x4), (.long x1), (.ref (n0 + 0)), (.ref (n0 + 0))])) (fun _ k => XS.lload A17.here hx rfl (own_db hby at_42) rfl k) ?_
    refine own_by (u' := T16.setTop (mkF m 45 #[.val (.long x1), .second, .val (.long x2), .second, .val (.long x3), .second, .val (.long x4), .second, .val (.long x5), .second, .val (.int x6), .val (.int (1 : Int32)), .unset, .unset, .unset] [(.long (x4 - x5)), (.long (x4 + x5)), (.long x5), (.long x4), (.long x3), (.long x2), (.long (x4 ^^^ x5)), (.long x5), (.long x4), (.long x1), (.ref (n0 + 0)), (.ref (n0 + 0))])) (fun _ k => XS.lsub A17.here hx rfl (own_db hby at_44) rfl k) ?_
    refine own_by (u' := T16.setTop (mkF m 47 #[.val (.long x1), .second, .val (.long x2), .second, .val (.long x3), .second, .val (.long x4), .second, .val (.long x5), .second, .val (.int x6), .val (.int (1 : Int32)), .unset, .unset, .unset] [(.long x5), (.long (x4 - x5)), (.long (x4 + x5)), (.long x5), (.long x4), (.long x3), (.long x2), (.long (x4 ^^^ x5)), (.long x5), (.long x4), (.long x1), (.ref (n0 + 0)), (.ref (n0 + 0))])) (fun _ k => XS.lload A17.here hx rfl (own_db hby at_45) rfl k) ?_
    refine own_by (u' := T16.setTop (mkF m 49 #[.val (.long x1), .second, .val (.long x2), .second, .val (.long x3), .second, .val (.long x4), .second, .val (.long x5), .second, .val (.int x6), .val (.int (1 : Int32)), .unset, .unset, .unset] [(.long x4), (.long x5), (.long (x4 - x5)), (.long (x4 + x5)), (.long x5), (.long x4), (.long x3), (.long x2), (.long (x4 ^^^ x5)), (.long x5), (.long x4), (.long x1), (.ref (n0 + 0)), (.ref (n0 + 0))])) (fun _ k => XS.lload A17.here hx rfl (own_db hby at_47) rfl k) ?_
    refine own_by (u' := T16.setTop (mkF m 51 #[.val (.long x1), .second, .val (.long x2), .second, .val (.long x3), .second, .val (.long x4), .second, .val (.long x5), .second, .val (.int x6), .val (.int (1 : Int32)), .unset, .unset, .unset] [(.int (1 : Int32)), (.long x4), (.long x5), (.long (x4 - x5)), (.long (x4 + x5)), (.long x5), (.long x4), (.long x3), (.long x2), (.long (x4 ^^^ x5)), (.long x5), (.long x4), (.long x1), (.ref (n0 + 0)), (.ref (n0 + 0))])) (fun _ k => XS.iload A17.here hx rfl (own_db hby at_49) rfl k) ?_
    refine own_callC (y := (⟨"com/example/halfpast/halfpast/bench/Result", "<init>", "(JJJJJJJJJJJJZ)V"⟩ : MethodName)) (rest := [(.ref (n0 + 0))]) A17 hx hZ hown rfl (hw _ (List.mem_of_getElem? (i := 3) rfl)) (hw _ (List.mem_of_getElem? (i := 4) rfl)) (hw _ (List.mem_of_getElem? (i := 2) rfl)) (hw _ (List.mem_of_getElem? (i := 5) rfl)) (by decide) (g1 l Z a0 hw n0 [(own_obj Z "com/example/halfpast/halfpast/bench/Result" ns_Result [(.long (0 : Int64)), (.long (0 : Int64)), (.long (0 : Int64)), (.long (0 : Int64)), (.long (0 : Int64)), (.long (0 : Int64)), (.long (0 : Int64)), (.long (0 : Int64)), (.long (0 : Int64)), (.long (0 : Int64)), (.long (0 : Int64)), (.long (0 : Int64)), (.int (0 : Int32))])] 0 x1 x4 x5 (x4 ^^^ x5) x2 x3 x4 x5 (x4 + x5) (x4 - x5) x5 x4 (1 : Int32) rfl) (by rw [hml]; rfl) (n0 + 0) [(.long x1), (.long x4), (.long x5), (.long (x4 ^^^ x5)), (.long x2), (.long x3), (.long x4), (.long x5), (.long (x4 + x5)), (.long (x4 - x5)), (.long x5), (.long x4), (.int (1 : Int32))] rfl rfl pd__JJJJJJJJJJJJZ_V rfl (W := 1) (by show 2 * 0 + _ ≤ _; exact Nat.le_of_eq rfl) (own_db hby at_51) (by decide) (by decide) (by decide) (by decide) ?_
    intro v18 i19 T21 hq20 A22
    obtain ⟨rfl, he23⟩ := hq20
    rw [he23] at A22
    replace A22 : own_at p l e _ s m _ below meth c n0 T21 1 13 [(own_obj Z "com/example/halfpast/halfpast/bench/Result" ns_Result [(.long x1), (.long x4), (.long x5), (.long (x4 ^^^ x5)), (.long x2), (.long x3), (.long x4), (.long x5), (.long (x4 + x5)), (.long (x4 - x5)), (.long x5), (.long x4), (.int (1 : Int32))])] := A22
    show own_go _ _ _ _ _ _ _ (T21.setTop (mkF m 54 #[.val (.long x1), .second, .val (.long x2), .second, .val (.long x3), .second, .val (.long x4), .second, .val (.long x5), .second, .val (.int x6), .val (.int (1 : Int32)), .unset, .unset, .unset] [(.ref (n0 + 0))]))
    refine own_by (u' := T21.setTop (mkF m 56 #[.val (.long x1), .second, .val (.long x2), .second, .val (.long x3), .second, .val (.long x4), .second, .val (.long x5), .second, .val (.int x6), .val (.int (1 : Int32)), .val (.ref (n0 + 0)), .unset, .unset] [])) (fun _ k => XS.astore A22.here hx rfl (own_db hby at_54) rfl rfl (l' := #[.val (.long x1), .second, .val (.long x2), .second, .val (.long x3), .second, .val (.long x4), .second, .val (.long x5), .second, .val (.int x6), .val (.int (1 : Int32)), .val (.ref (n0 + 0)), .unset, .unset]) rfl k) ?_
    refine own_by (u' := T21.setTop (mkF m 58 #[.val (.long x1), .second, .val (.long x2), .second, .val (.long x3), .second, .val (.long x4), .second, .val (.long x5), .second, .val (.int x6), .val (.int (1 : Int32)), .val (.ref (n0 + 0)), .unset, .unset] [(.ref (n0 + 0))])) (fun _ k => XS.aload A22.here hx rfl (own_db hby at_56) rfl rfl k) ?_
    refine own_callV (y := (⟨"com/example/halfpast/halfpast/bench/Result", "missing", "()J"⟩ : MethodName)) (rest := []) A22 hx hZ hown (hw _ (List.mem_of_getElem? (i := 40) rfl)) (hw _ (List.mem_of_getElem? (i := 41) rfl)) (hw _ (List.mem_of_getElem? (i := 43) rfl)) (hw _ (List.mem_of_getElem? (i := 42) rfl)) (hw _ (List.mem_of_getElem? (i := 2) rfl)) (hw _ (List.mem_of_getElem? (i := 44) rfl)) (by decide) (i := 0) rfl (g2 l Z a0 hw n0 [(own_obj Z "com/example/halfpast/halfpast/bench/Result" ns_Result [(.long x1), (.long x4), (.long x5), (.long (x4 ^^^ x5)), (.long x2), (.long x3), (.long x4), (.long x5), (.long (x4 + x5)), (.long (x4 - x5)), (.long x5), (.long x4), (.int (1 : Int32))])] 0 x1 x4 x5 (x4 ^^^ x5) x2 x3 x4 x5 (x4 + x5) (x4 - x5) x5 x4 (1 : Int32)  rfl) (by rw [hml]; rfl) [] rfl rfl pd___J rfl (W := 0) (by show 2 * 0 + _ ≤ _; exact Nat.le_of_eq rfl) (own_db hby at_58) (by decide) (by decide) (by decide) (by decide) ?_
    intro v24 i25 T27 hq26 A28
    obtain ⟨rfl, he29⟩ := hq26
    rw [he29] at A28
    replace A28 : own_at p l e _ s m _ below meth c n0 T27 1 13 [(own_obj Z "com/example/halfpast/halfpast/bench/Result" ns_Result [(.long x1), (.long x4), (.long x5), (.long (x4 ^^^ x5)), (.long x2), (.long x3), (.long x4), (.long x5), (.long (x4 + x5)), (.long (x4 - x5)), (.long x5), (.long x4), (.int (1 : Int32))])] := A28
    show own_go _ _ _ _ _ _ _ (T27.setTop (mkF m 61 #[.val (.long x1), .second, .val (.long x2), .second, .val (.long x3), .second, .val (.long x4), .second, .val (.long x5), .second, .val (.int x6), .val (.int (1 : Int32)), .val (.ref (n0 + 0)), .unset, .unset] [(.long (f2 x1 x2 x3))]))
    refine own_by (u' := T27.setTop (mkF m 63 #[.val (.long x1), .second, .val (.long x2), .second, .val (.long x3), .second, .val (.long x4), .second, .val (.long x5), .second, .val (.int x6), .val (.int (1 : Int32)), .val (.ref (n0 + 0)), .val (.long (f2 x1 x2 x3)), .second] [])) (fun _ k => XS.lstore A28.here hx rfl (own_db hby at_61) rfl (l' := #[.val (.long x1), .second, .val (.long x2), .second, .val (.long x3), .second, .val (.long x4), .second, .val (.long x5), .second, .val (.int x6), .val (.int (1 : Int32)), .val (.ref (n0 + 0)), .val (.long (f2 x1 x2 x3)), .second]) rfl k) ?_
    refine own_by (u' := T27.setTop (mkF m 65 #[.val (.long x1), .second, .val (.long x2), .second, .val (.long x3), .second, .val (.long x4), .second, .val (.long x5), .second, .val (.int x6), .val (.int (1 : Int32)), .val (.ref (n0 + 0)), .val (.long (f2 x1 x2 x3)), .second] [(.long (f2 x1 x2 x3))])) (fun _ k => XS.lload A28.here hx rfl (own_db hby at_63) rfl k) ?_
    refine own_by (u' := T27.setTop (mkF m 66 #[.val (.long x1), .second, .val (.long x2), .second, .val (.long x3), .second, .val (.long x4), .second, .val (.long x5), .second, .val (.int x6), .val (.int (1 : Int32)), .val (.ref (n0 + 0)), .val (.long (f2 x1 x2 x3)), .second] [(.long x2), (.long (f2 x1 x2 x3))])) (fun _ k => XS.lloadN A28.here hx rfl (own_db hby at_65) rfl k) ?_
    refine own_by (u' := T27.setTop (mkF m 67 #[.val (.long x1), .second, .val (.long x2), .second, .val (.long x3), .second, .val (.long x4), .second, .val (.long x5), .second, .val (.int x6), .val (.int (1 : Int32)), .val (.ref (n0 + 0)), .val (.long (f2 x1 x2 x3)), .second] [(.long ((f2 x1 x2 x3) + x2))])) (fun _ k => XS.ladd A28.here hx rfl (own_db hby at_66) rfl k) ?_
    refine own_by (u' := T27.setTop (mkF m 69 #[.val (.long x1), .second, .val (.long x2), .second, .val (.long x3), .second, .val (.long x4), .second, .val (.long x5), .second, .val (.int x6), .val (.int (1 : Int32)), .val (.ref (n0 + 0)), .val (.long (f2 x1 x2 x3)), .second] [(.long x3), (.long ((f2 x1 x2 x3) + x2))])) (fun _ k => XS.lload A28.here hx rfl (own_db hby at_67) rfl k) ?_
    refine own_by (u' := T27.setTop (mkF m 70 #[.val (.long x1), .second, .val (.long x2), .second, .val (.long x3), .second, .val (.long x4), .second, .val (.long x5), .second, .val (.int x6), .val (.int (1 : Int32)), .val (.ref (n0 + 0)), .val (.long (f2 x1 x2 x3)), .second] [(.long (((f2 x1 x2 x3) + x2) + x3))])) (fun _ k => XS.ladd A28.here hx rfl (own_db hby at_69) rfl k) ?_
    refine own_by (u' := T27.setTop (mkF m 71 #[.val (.long x1), .second, .val (.long x2), .second, .val (.long x3), .second, .val (.long x4), .second, .val (.long x5), .second, .val (.int x6), .val (.int (1 : Int32)), .val (.ref (n0 + 0)), .val (.long (f2 x1 x2 x3)), .second] [(.long x1), (.long (((f2 x1 x2 x3) + x2) + x3))])) (fun _ k => XS.lloadN A28.here hx rfl (own_db hby at_70) rfl k) ?_
    refine own_by (u' := T27.setTop (mkF m 72 #[.val (.long x1), .second, .val (.long x2), .second, .val (.long x3), .second, .val (.long x4), .second, .val (.long x5), .second, .val (.int x6), .val (.int (1 : Int32)), .val (.ref (n0 + 0)), .val (.long (f2 x1 x2 x3)), .second] [(.int (lcmpW (((f2 x1 x2 x3) + x2) + x3) x1))])) (fun _ k => XS.lcmp A28.here hx rfl (own_db hby at_71) rfl k) ?_
    refine own_by (u' := T27.setTop (mkF m 75 #[.val (.long x1), .second, .val (.long x2), .second, .val (.long x3), .second, .val (.long x4), .second, .val (.long x5), .second, .val (.int x6), .val (.int (1 : Int32)), .val (.ref (n0 + 0)), .val (.long (f2 x1 x2 x3)), .second] [])) (fun _ k => XS.ifNo A28.here hx rfl (own_db hby at_72) rfl ((if0 _ _).trans (teq (own_lc_eq (own_sum _ _ _))).2) k) ?_
    refine own_by (u' := T27.setTop (mkF m 76 #[.val (.long x1), .second, .val (.long x2), .second, .val (.long x3), .second, .val (.long x4), .second, .val (.long x5), .second, .val (.int x6), .val (.int (1 : Int32)), .val (.ref (n0 + 0)), .val (.long (f2 x1 x2 x3)), .second] [(.int (1 : Int32))])) (fun _ k => XS.iconst A28.here hx rfl (own_db hby at_75) k) ?_
    refine own_by (u' := T27.setTop (mkF m 80 #[.val (.long x1), .second, .val (.long x2), .second, .val (.long x3), .second, .val (.long x4), .second, .val (.long x5), .second, .val (.int x6), .val (.int (1 : Int32)), .val (.ref (n0 + 0)), .val (.long (f2 x1 x2 x3)), .second] [(.int (1 : Int32))])) (fun _ k => XS.goto A28.here hx rfl (pc0 := 76) (pc' := 80) rfl (own_db hby at_76) (by decide) (by decide) k) ?_
    exact own_retN A28 hx hlk (t := .boolean) (by simp) hret (own_db hby at_80) (by decide) (by decide) ⟨rfl, trivial⟩
set_option maxRecDepth 65536 in
set_option maxHeartbeats 40000000 in
theorem comes_1 {Post : Tables → Env → Array Value → State → Outcome → State → Prop} (hpost : ∀ tb e args s v u, (limb_1_1.after args s (.returned v) u = true ∧ limb_1_2.after args s (.returned v) u = true ∧ True) → FrameEnd s (.returned v) u (Jvm.fieldLocs frame_1_writes args s ++ Jvm.arrayLocs frame_1_arrays args s ++ Jvm.staticLocs frame_1_statics s) 16 128 → Post tb e args s (.returned v) u) :
    ArmFor flags0 classFile x code maxLocals ret World_1 tables_1 room_1 Calls_1 rest_1 Pre_1 Post := by
  intro l hfl _ _ p e ha hc hk s m args below hf hA hF happ hP
  obtain ⟨hcalls, hrest, hpre⟩ := hP
  obtain ⟨-, -, -, hnamed, -, -, -, hat⟩ := (Spec.applies_iff hf).mp happ
  obtain ⟨hg, hn⟩ := and_e (Cond.before_iff.mp (show (Jvm.Cond.and given_1 narrow_1).before args s = true from hpre))
  obtain ⟨h1, k0⟩ := and_e hg
  obtain ⟨j0, k1⟩ := and_e k0
  obtain ⟨j1, k2⟩ := and_e k1
  obtain ⟨j2, k3⟩ := and_e k2
  obtain ⟨j3, k4⟩ := and_e k3
  obtain ⟨j4, k5⟩ := and_e k4
  obtain ⟨w0, w1, w2, w3, w4, w5, rfl⟩ : ∃ w0 w1 w2 w3 w4 w5 : Value, args = #[w0, w1, w2, w3, w4, w5] := by
    have hs : args.size = 6 := by simpa [Cond.value, given_1] using h1
    obtain ⟨L⟩ := args
    match L, hs with
    | [w0, w1, w2, w3, w4, w5], _ => exact ⟨w0, w1, w2, w3, w4, w5, rfl⟩
  have hw := fun d (hd : d ∈ tables_1) => atoms_spec (ws := Jvm.Cond.code x code maxLocals ret :: tables_1) hat d (List.mem_cons_of_mem _ hd)
  obtain ⟨i0, ei0⟩ := isL_v j0
  obtain rfl : w0 = (.long i0) := Option.some.inj ei0
  obtain ⟨i1, ei1⟩ := isL_v j1
  obtain rfl : w1 = (.long i1) := Option.some.inj ei1
  obtain ⟨i2, ei2⟩ := isL_v j2
  obtain rfl : w2 = (.long i2) := Option.some.inj ei2
  obtain ⟨i3, ei3⟩ := isL_v j3
  obtain rfl : w3 = (.long i3) := Option.some.inj ei3
  obtain ⟨i4, ei4⟩ := isL_v j4
  obtain rfl : w4 = (.long i4) := Option.some.inj ei4
  obtain ⟨i5, ei5⟩ := is_v k5
  obtain rfl : w5 = (.int i5) := Option.some.inj ei5
  obtain ⟨n, o, h1, h2, h3, v, L, rfl, ⟨N, its', ⟨rfl, -⟩, -⟩, hq⟩ := g0 l s _ hw s.heap.size i0 i1 i2 i3 i4 i5 s.heap tables_1 ⟨rfl, fun i P q => nomatch q⟩ p e ha hc hk s m _ below hf ((Spec.applies_iff_loose hf).mp happ).1 ⟨rfl, State.Warmed39.refl s, rfl⟩ trivial
  refine ⟨n, _, h1, h2, h3, hpost _ _ _ _ _ _ ⟨Cond.after_iff.mpr rfl, Cond.after_iff.mpr (eq_i res_at (Term.int_eval (1)) rfl), trivial⟩ ⟨hq.1, hq.2.1, (hq.2.2.sift fun y hy => Or.inr (N y hy)).mono (by decide) (by decide)⟩⟩
theorem main_1_1 : Claimed_1_1 := comes_1 fun _ _ _ _ _ _ h hF => ⟨h.1, hF⟩
theorem main_1_2 : Claimed_1_2 := comes_1 fun _ _ _ _ _ _ h hF => ⟨h.2.1, hF⟩
end Jvm.Pilot.@@N@@
namespace Jvm.Pilot.@@N@@
open Jvm Jvm.ClassFile Sem Op Lib Jvm.Free Jvm.Stand Jvm.Pilot.@@N@@.Jvm.D
/-! MADE BY PROGRAM (witnessworld.py) out of the Statement's table words and the real class files: 10 classes; the members and pool entries that the words name. The judged class is class 1, her method 1. -/
namespace start1
open Jvm.ClassFile
def u (s : String) : CpInfo := .utf8 (stringToUtf16 s)
/-- a pool by its gaps: so many unusable entries, then the entry; so many at the end -/
def gap : Nat → List CpInfo → List CpInfo
  | 0, r => r
  | n + 1, r => .unusable :: gap n r
def poolList (es : List (Nat × CpInfo)) (last : Nat) : List CpInfo := es.foldr (fun e r => gap e.1 (e.2 :: r)) (gap last [])
def pool (es : List (Nat × CpInfo)) (last : Nat) : Array CpInfo := ⟨poolList es last⟩
def fileOf (pool : Array CpInfo) (this : Nat) (attrs : Array Attribute := #[]) (ms : Array MethodInfo := #[]) (fl : Nat := 33) (sup : Nat := 0) (ifs : Array Nat := #[]) (fds : Array FieldInfo := #[]) : ClassFile where
  minorVersion := 0
  majorVersion := 65
  constantPool := pool
  accessFlags := fl
  thisClass := this
  superClass := sup
  interfaces := ifs
  fields := fds
  methods := ms
  attributes := attrs
def plain (name : String) (sup : Option ClassId) : Class where
  name := name
  kind := .ordinary
  loader := none
  accessFlags := 33
  super := sup
  interfaces := #[]
  cf := none
  fields := #[]
  methods := #[]
  instanceTypes := #[]
  staticTypes := #[]
  resolved := #[]
  callSites := []
  init := .initialized
  statics := none
  mirror := none

def pool0 : Array CpInfo := pool [(5, u "<init>"), (0, u "()V"), (1, .class_ 10), (1, u "java/lang/Object")] 113

def k0c0 : Code := { maxStack := 0, maxLocals := 1, code := object_method_1_code, exceptionTable := #[], attributes := #[] }
def k0m0 : Method := { name := "<init>", desc := "()V", sig := { parameters := [], returnType := none }, accessFlags := 1, code := some k0c0 }
/-- java/lang/Object -/
def k0 : Class := { plain "java/lang/Object" none with
  accessFlags := 33
  interfaces := #[]
  cf := some (fileOf pool0 8 #[] #[{ accessFlags := 1, nameIndex := 5, descriptorIndex := 6, attributes := #[] }] 33 0 #[] #[])
  fields := #[]
  methods := #[k0m0]
  instanceTypes := #[]
  staticTypes := #[]
  resolved := Array.replicate 124 none
  statics := none }

def pool1 : Array CpInfo := pool [(2, .class_ 4), (1, u "java/lang/Object"), (0, u "<init>"), (0, u "()V"), (0, .class_ 8), (0, u "com/example/halfpast/halfpast/bench/Result"), (0, .methodref 7 10), (0, .nameAndType 5 11), (0, u "(JJJJJJJJJJJJZ)V"), (0, .methodref 7 13), (0, .nameAndType 14 15), (0, u "missing"), (0, u "()J"), (0, .class_ 17), (0, u "com/example/halfpast/halfpast/bench/ResultMissingPinLaw"), (2, u "law"), (0, u "(JJJJJI)Z")] 3

def k1m0 : Method := { name := "<init>", desc := "()V", sig := { parameters := [], returnType := none }, accessFlags := 1, code := none }
def k1c1 : Code := { maxStack := 27, maxLocals := 15, code := code, exceptionTable := #[], attributes := #[] }
def k1m1 : Method := { name := "law", desc := "(JJJJJI)Z", sig := { parameters := [.long, .long, .long, .long, .long, .int], returnType := some .boolean }, accessFlags := 9, code := some k1c1 }
/-- com/example/halfpast/halfpast/bench/ResultMissingPinLaw -/
def k1 : Class := { plain "com/example/halfpast/halfpast/bench/ResultMissingPinLaw" (some 0) with
  accessFlags := 49
  interfaces := #[]
  cf := some (fileOf pool1 16 #[] #[{ accessFlags := 1, nameIndex := 5, descriptorIndex := 6, attributes := #[] }, { accessFlags := 9, nameIndex := 20, descriptorIndex := 21, attributes := #[] }] 49 2 #[] #[])
  fields := #[]
  methods := #[k1m0, k1m1]
  instanceTypes := #[]
  staticTypes := #[]
  resolved := Array.replicate 25 none
  statics := none }

def pool2 : Array CpInfo := pool [(1, .methodref 2 3), (0, .class_ 4), (0, .nameAndType 5 6), (0, u "java/lang/Object"), (0, u "<init>"), (0, u "()V"), (0, .class_ 8), (0, u "java/lang/Record")] 13

def k2c0 : Code := { maxStack := 1, maxLocals := 1, code := jdk_30_method_1_code, exceptionTable := #[], attributes := #[] }
def k2m0 : Method := { name := "<init>", desc := "()V", sig := { parameters := [], returnType := none }, accessFlags := 4, code := some k2c0 }
/-- java/lang/Record -/
def k2 : Class := { plain "java/lang/Record" (some 0) with
  accessFlags := 1057
  interfaces := #[]
  cf := some (fileOf pool2 7 #[] #[{ accessFlags := 4, nameIndex := 5, descriptorIndex := 6, attributes := #[] }] 1057 2 #[] #[])
  fields := #[]
  methods := #[k2m0]
  instanceTypes := #[]
  staticTypes := #[]
  resolved := Array.replicate 22 none
  statics := none }

def pool3 : Array CpInfo := pool [(1, .methodref 2 3), (0, .class_ 4), (0, .nameAndType 5 6), (0, u "java/lang/Record"), (0, u "<init>"), (0, u "()V"), (0, .fieldref 8 9), (0, .class_ 10), (0, .nameAndType 11 12), (0, u "com/example/halfpast/halfpast/bench/Result"), (0, u "jobs"), (0, u "J"), (0, .fieldref 8 14), (0, .nameAndType 15 12), (0, u "added"), (0, .fieldref 8 17), (0, .nameAndType 18 12), (0, u "addErrors"), (0, .fieldref 8 20), (0, .nameAndType 21 12), (0, u "addPerS"), (0, .fieldref 8 23), (0, .nameAndType 24 12), (0, u "cancelled"), (0, .fieldref 8 26), (0, .nameAndType 27 12), (0, u "received"), (0, .fieldref 8 29), (0, .nameAndType 30 12), (0, u "duplicates"), (0, .fieldref 8 32), (0, .nameAndType 33 12), (0, u "early"), (0, .fieldref 8 35), (0, .nameAndType 36 12), (0, u "cancelledReceived"), (0, .fieldref 8 38), (0, .nameAndType 39 12), (0, u "lateP50"), (0, .fieldref 8 41), (0, .nameAndType 42 12), (0, u "lateP99"), (0, .fieldref 8 44), (0, .nameAndType 45 12), (0, u "lateMax"), (0, .fieldref 8 47), (0, .nameAndType 48 49), (0, u "addOnly"), (0, u "Z"), (6, u "missing"), (0, u "()J"), (15, u "(JJJJJJJJJJJJZ)V")] 54

def k3c0 : Code := { maxStack := 3, maxLocals := 26, code := prog_6_method_1_code, exceptionTable := #[], attributes := #[] }
def k3m0 : Method := { name := "<init>", desc := "(JJJJJJJJJJJJZ)V", sig := { parameters := [.long, .long, .long, .long, .long, .long, .long, .long, .long, .long, .long, .long, .boolean], returnType := none }, accessFlags := 0, code := some k3c0 }
def k3c1 : Code := { maxStack := 4, maxLocals := 1, code := prog_6_method_2_code, exceptionTable := #[], attributes := #[] }
def k3m1 : Method := { name := "missing", desc := "()J", sig := { parameters := [], returnType := some .long }, accessFlags := 0, code := some k3c1 }
/-- com/example/halfpast/halfpast/bench/Result -/
def k3 : Class := { plain "com/example/halfpast/halfpast/bench/Result" (some 2) with
  accessFlags := 48
  interfaces := #[]
  cf := some (fileOf pool3 8 #[] #[{ accessFlags := 0, nameIndex := 5, descriptorIndex := 73, attributes := #[] }, { accessFlags := 0, nameIndex := 56, descriptorIndex := 57, attributes := #[] }] 48 2 #[] #[{ accessFlags := 18, nameIndex := 11, descriptorIndex := 12, attributes := #[] }, { accessFlags := 18, nameIndex := 15, descriptorIndex := 12, attributes := #[] }, { accessFlags := 18, nameIndex := 18, descriptorIndex := 12, attributes := #[] }, { accessFlags := 18, nameIndex := 21, descriptorIndex := 12, attributes := #[] }, { accessFlags := 18, nameIndex := 24, descriptorIndex := 12, attributes := #[] }, { accessFlags := 18, nameIndex := 27, descriptorIndex := 12, attributes := #[] }, { accessFlags := 18, nameIndex := 30, descriptorIndex := 12, attributes := #[] }, { accessFlags := 18, nameIndex := 33, descriptorIndex := 12, attributes := #[] }, { accessFlags := 18, nameIndex := 36, descriptorIndex := 12, attributes := #[] }, { accessFlags := 18, nameIndex := 39, descriptorIndex := 12, attributes := #[] }, { accessFlags := 18, nameIndex := 42, descriptorIndex := 12, attributes := #[] }, { accessFlags := 18, nameIndex := 45, descriptorIndex := 12, attributes := #[] }, { accessFlags := 18, nameIndex := 48, descriptorIndex := 49, attributes := #[] }])
  fields := #[{ name := "jobs", type := .long, accessFlags := 18, slot := 0, constantValue := 0 }, { name := "added", type := .long, accessFlags := 18, slot := 1, constantValue := 0 }, { name := "addErrors", type := .long, accessFlags := 18, slot := 2, constantValue := 0 }, { name := "addPerS", type := .long, accessFlags := 18, slot := 3, constantValue := 0 }, { name := "cancelled", type := .long, accessFlags := 18, slot := 4, constantValue := 0 }, { name := "received", type := .long, accessFlags := 18, slot := 5, constantValue := 0 }, { name := "duplicates", type := .long, accessFlags := 18, slot := 6, constantValue := 0 }, { name := "early", type := .long, accessFlags := 18, slot := 7, constantValue := 0 }, { name := "cancelledReceived", type := .long, accessFlags := 18, slot := 8, constantValue := 0 }, { name := "lateP50", type := .long, accessFlags := 18, slot := 9, constantValue := 0 }, { name := "lateP99", type := .long, accessFlags := 18, slot := 10, constantValue := 0 }, { name := "lateMax", type := .long, accessFlags := 18, slot := 11, constantValue := 0 }, { name := "addOnly", type := .boolean, accessFlags := 18, slot := 12, constantValue := 0 }]
  methods := #[k3m0, k3m1]
  instanceTypes := #[.long, .long, .long, .long, .long, .long, .long, .long, .long, .long, .long, .long, .boolean]
  staticTypes := #[]
  resolved := Array.replicate 128 none
  statics := none }

def pool4 : Array CpInfo := pool [(1, u "java/lang/Cloneable"), (0, .class_ 1), (0, u "java/lang/Object"), (0, .class_ 3)] 3

/-- java/lang/Cloneable -/
def k4 : Class := { plain "java/lang/Cloneable" (some 0) with
  accessFlags := 1537
  interfaces := #[]
  cf := some (fileOf pool4 2 #[] #[] 1537 4 #[] #[])
  fields := #[]
  methods := #[]
  instanceTypes := #[]
  staticTypes := #[]
  resolved := Array.replicate 8 none
  statics := none }

def pool5 : Array CpInfo := pool [(1, u "java/io/Serializable"), (0, .class_ 1), (0, u "java/lang/Object"), (0, .class_ 3)] 3

/-- java/io/Serializable -/
def k5 : Class := { plain "java/io/Serializable" (some 0) with
  accessFlags := 1537
  interfaces := #[]
  cf := some (fileOf pool5 2 #[] #[] 1537 4 #[] #[])
  fields := #[]
  methods := #[]
  instanceTypes := #[]
  staticTypes := #[]
  resolved := Array.replicate 8 none
  statics := none }

/-- the primitive byte -/
def k6 : Class := { plain "byte" none with kind := .primitive 'B', accessFlags := 0x411 }
/-- [B -/
def k7 : Class := { plain "[B" (some 0) with kind := .array 6 .byte, interfaces := #[4, 5], accessFlags := 1041 }

/-- the primitive int -/
def k8 : Class := { plain "int" none with kind := .primitive 'I', accessFlags := 0x411 }
/-- [I -/
def k9 : Class := { plain "[I" (some 0) with kind := .array 8 .int, interfaces := #[4, 5], accessFlags := 1041 }

def heap : Heap := #[]
def classes : Array Class := #[k0, k1, k2, k3, k4, k5, k6, k7, k8, k9]
def interned : List (Array UInt16 × Addr) := []
def slotsUsed : Nat := 0
def theMethod : MethodId := ⟨1, 1⟩
def args0 : Array Value := #[.long 1, .long 2, .long 3, .long 4, .long 5, .int 5]
def aboutOver (below : List Frame) : State where
  vm := { classes := classes, interned := interned.toArray }
  heap := heap
  slotsUsed := slotsUsed
  threads := #[{ frames := .invoking theMethod args0 :: below }]
def below0 : List Frame := [.native { method := ⟨0, 0⟩, args := #[] }]
def about1 : State := aboutOver below0
def p0 : Program := .bare "" "" ""
def e0 : Env := launch0.env 0 0 0
theorem w_frames : about1.frames = Frame.invoking theMethod args0 :: below0 := rfl
set_option maxRecDepth 65536 in
theorem w_args : argsFit about1.vm theMethod args0 = true := by decide +kernel
set_option maxRecDepth 65536 in
theorem w_heap : heapFits about1 = true := by decide +kernel
set_option maxRecDepth 65536 in
theorem w_runnable : about1.curStatus? = some .runnable := by decide +kernel
set_option maxRecDepth 65536 in
theorem w_alone : about1.alone = true := by decide +kernel
set_option maxRecDepth 65536 in
theorem w_named : about1.methodNamed? x = some theMethod := by decide +kernel
set_option maxRecDepth 65536 in
theorem w_hears : about1.hears theMethod below0 = true := by decide +kernel
set_option maxRecDepth 65536 in
theorem w_ripe : about1.ripe theMethod args0 below0 = true := by decide +kernel
theorem w_running : about1.status = .running := rfl
set_option maxRecDepth 65536 in
theorem w_room : about1.hasRoom e0.platform room_1 = true :=
  launch0.hasRoom_least _ room_1 (by decide +kernel) (by decide +kernel) (by decide +kernel) (by decide +kernel) (by decide +kernel) (by decide +kernel)
theorem allAtoms_all (ts : List Jvm.Cond) (a : Array Jvm.Value) (st : Jvm.State) : (allAtoms ts).before a st = ts.all (fun c => c.before a st) := by
  induction ts with
  | nil => rfl
  | cons c t ih =>
    show (Jvm.Cond.and c (allAtoms t)).before a st = _
    rw [Jvm.Cond.before_and, ih, List.all_cons]
def words1 : List Jvm.Cond := Jvm.Cond.code x code maxLocals ret :: tables_1
/-- a 'code' word, met by the world's own term for the bytes: nothing is compared byte by byte -/
theorem code_word {y : MethodName} {bytes : ByteArray} {mx : Nat} {rt : Option FieldType} {a : Array Value} {s : State} {m : MethodId} {meth : Method} {c : Code} (h1 : s.methodNamed? y = some m) (h2 : s.vm.method? m = some meth) (h3 : meth.code = some c) (h4 : c.code = bytes)
    (h5 : (c.maxLocals == mx && c.exceptionTable.isEmpty && decide (c.maxStack ≤ mostOperands) && decide (meth.sig.returnType = rt) && !meth.locks && decide (parseMethodDescriptor y.desc = some meth.sig)) = true) : (Jvm.Cond.code y bytes mx rt).before a s = true := by
  simp only [Bool.and_eq_true, beq_iff_eq, Bool.not_eq_true', decide_eq_true_eq] at h5
  obtain ⟨⟨⟨⟨⟨g1, g2⟩, g3⟩, g4⟩, g5⟩, g6⟩ := h5
  simp [Cond.before, Cond.holds, Cond.value, h1, h2, h3, h4, g1, g2, g3, g4, g5, g6]
def isCode : Jvm.Cond → Bool
  | .code _ _ _ _ => true
  | _ => false
theorem all_split {L : List Jvm.Cond} {P : Jvm.Cond → Bool} (h1 : L.all (fun c => isCode c || P c) = true) (h2 : ∀ c ∈ L.filter isCode, P c = true) : L.all P = true := by
  refine List.all_eq_true.mpr fun c hc => ?_
  have h := List.all_eq_true.mp h1 c hc
  rcases Bool.eq_false_or_eq_true (isCode c) with hi | hi
  · exact h2 c (List.mem_filter.mpr ⟨hc, hi⟩)
  · simpa [hi] using h
set_option maxRecDepth 65536 in
theorem w_c0 : (Jvm.Cond.code x code maxLocals ret).before args0 about1 = true := code_word (m := ⟨1, 1⟩) (meth := k1m1) (c := k1c1) (by decide +kernel) rfl rfl rfl (by decide +kernel)
set_option maxRecDepth 65536 in
theorem w_c1 : (Jvm.Cond.code ({ cls := "com/example/halfpast/halfpast/bench/Result", name := "<init>", desc := "(JJJJJJJJJJJJZ)V" } : Jvm.MethodName) prog_6_method_1_code (26 : Nat) (Option.none : Option Jvm.ClassFile.FieldType)).before args0 about1 = true := code_word (m := ⟨3, 0⟩) (meth := k3m0) (c := k3c0) (by decide +kernel) rfl rfl rfl (by decide +kernel)
set_option maxRecDepth 65536 in
theorem w_c2 : (Jvm.Cond.code ({ cls := "java/lang/Record", name := "<init>", desc := "()V" } : Jvm.MethodName) jdk_30_method_1_code (1 : Nat) (Option.none : Option Jvm.ClassFile.FieldType)).before args0 about1 = true := code_word (m := ⟨2, 0⟩) (meth := k2m0) (c := k2c0) (by decide +kernel) rfl rfl rfl (by decide +kernel)
set_option maxRecDepth 65536 in
theorem w_c3 : (Jvm.Cond.code ({ cls := "java/lang/Object", name := "<init>", desc := "()V" } : Jvm.MethodName) object_method_1_code (1 : Nat) (Option.none : Option Jvm.ClassFile.FieldType)).before args0 about1 = true := code_word (m := ⟨0, 0⟩) (meth := k0m0) (c := k0c0) (by decide +kernel) rfl rfl rfl (by decide +kernel)
set_option maxRecDepth 65536 in
theorem w_c4 : (Jvm.Cond.code ({ cls := "com/example/halfpast/halfpast/bench/Result", name := "missing", desc := "()J" } : Jvm.MethodName) prog_6_method_2_code (1 : Nat) (Option.some Jvm.ClassFile.FieldType.long)).before args0 about1 = true := code_word (m := ⟨3, 1⟩) (meth := k3m1) (c := k3c1) (by decide +kernel) rfl rfl rfl (by decide +kernel)
def codes1 : List Jvm.Cond := [Jvm.Cond.code x code maxLocals ret, Jvm.Cond.code ({ cls := "com/example/halfpast/halfpast/bench/Result", name := "<init>", desc := "(JJJJJJJJJJJJZ)V" } : Jvm.MethodName) prog_6_method_1_code (26 : Nat) (Option.none : Option Jvm.ClassFile.FieldType), Jvm.Cond.code ({ cls := "java/lang/Record", name := "<init>", desc := "()V" } : Jvm.MethodName) jdk_30_method_1_code (1 : Nat) (Option.none : Option Jvm.ClassFile.FieldType), Jvm.Cond.code ({ cls := "java/lang/Object", name := "<init>", desc := "()V" } : Jvm.MethodName) object_method_1_code (1 : Nat) (Option.none : Option Jvm.ClassFile.FieldType), Jvm.Cond.code ({ cls := "com/example/halfpast/halfpast/bench/Result", name := "missing", desc := "()J" } : Jvm.MethodName) prog_6_method_2_code (1 : Nat) (Option.some Jvm.ClassFile.FieldType.long)]
set_option maxRecDepth 65536 in
theorem codes_eq : words1.filter isCode = codes1 := rfl
theorem w_codes : ∀ c ∈ words1.filter isCode, c.before args0 about1 = true := by
  rw [codes_eq]
  intro c hc
  simp only [codes1, List.mem_cons, List.not_mem_nil, or_false] at hc
  rcases hc with rfl | rfl | rfl | rfl | rfl
  · exact w_c0
  · exact w_c1
  · exact w_c2
  · exact w_c3
  · exact w_c4
set_option maxRecDepth 65536 in
theorem w_t1 : (words1.take 24).all (fun c => isCode c || c.before args0 about1) = true := by decide +kernel
set_option maxRecDepth 65536 in
theorem w_t2 : (words1.drop 24).all (fun c => isCode c || c.before args0 about1) = true := by decide +kernel
theorem w_tables : (allAtoms (Jvm.Cond.code x code maxLocals ret :: tables_1)).before args0 about1 = true := by
  rw [allAtoms_all]
  show words1.all (fun c => c.before args0 about1) = true
  refine all_split ?_ w_codes
  rw [← List.take_append_drop 24 words1, List.all_append, w_t1, w_t2]
  rfl
set_option maxRecDepth 65536 in
theorem w_case : (Jvm.Cond.and given_1 narrow_1).before args0 about1 = true := by decide +kernel
theorem w_applies : (headSpec (Jvm.Cond.code x code maxLocals ret :: tables_1) room_1).applies x e0.platform about1 = true :=
  (Spec.applies_iff w_frames).mpr ⟨w_running, w_runnable, w_alone, w_named, w_hears, w_ripe, w_room, w_tables⟩
theorem atStart : AtStart classFile x code maxLocals ret World_1 tables_1 room_1 Calls_1 rest_1 Pre_1 launch0 p0 e0 about1 theMethod args0 below0 :=
  ⟨lists_1, trivial, launch0.admits_env _ _ _, launch0.least_env, fairChoices_fair.cas, fairChoices_fair.clock, w_frames, w_args, w_heap, w_applies, trivial, trivial, w_case⟩
end start1
theorem witness_1 : WitnessClaimed_1 := ⟨start1.p0, start1.e0, start1.about1, start1.theMethod, start1.args0, start1.below0, start1.atStart⟩
end Jvm.Pilot.@@N@@
