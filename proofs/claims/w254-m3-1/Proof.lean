import JvmDerived
import JvmDerived.Pilot.@@N@@Statement
import JvmDerived.Pilot.@@N@@Code
set_option linter.unusedVariables false
set_option linter.unusedSimpArgs false
namespace Jvm.Pilot.@@N@@
open Jvm Jvm.ClassFile Sem Op Lib Jvm.Free Jvm.Stand Jvm.LawKit Jvm.RoadKit Bundle Jvm.Pilot.@@N@@.Jvm.D
section Own
variable {p : Program} {l : Launch} {e : Env} {R : Room} {s : State} {m : MethodId} {args : Array Value} {below : List Frame} {meth : Method} {c : Code} {T : State} {locs : List Loc} {cells slots n0 : Nat} {Z : State} {a0 : Array Value} {h h' : Heap} {its : List (Cell → Prop)} {Q : Option Value → List (Cell → Prop) → Prop} {pc : Nat} {Ls : Array Slot} {stk rest : List Value} {own : String}
/-- the new part of the heap: the cells from n0 on, one word on each -/
def own_hp (n0 : Nat) (h : Heap) (its : List (Cell → Prop)) : Prop := h.size = n0 + its.length ∧ ∀ (i : Nat) (P : Cell → Prop), its[i]? = some P → ∃ cl : Cell, h[n0 + i]? = some cl ∧ P cl
/-- where the walk stands -/
def own_at (p : Program) (l : Launch) (e : Env) (R : Room) (s : State) (m : MethodId) (args : Array Value) (below : List Frame) (meth : Method) (c : Code) (n0 : Nat) (T : State) (cells slots : Nat) (its : List (Cell → Prop)) : Prop :=
  ∃ locs, Stand p l e R s m args below meth c T locs cells slots ∧ Fr n0 locs ∧ own_hp n0 T.heap its
/-- from u the method comes to its end, and Q holds there -/
def own_go (p : Program) (e : Env) (R : Room) (s : State) (below : List Frame) (n0 : Nat) (Q : Option Value → List (Cell → Prop) → Prop) (u : State) : Prop :=
  ∃ (t : State) (v : Option Value) (L : List Loc) (its : List (Cell → Prop)), Steps p.tables e below u t ∧ t.status = .running ∧ Ended t below (.returned v) ∧ Q v its ∧ Fr n0 L ∧ own_hp n0 t.heap its ∧ s.WarmedH t.vm ∧ s.sameButNew ({ t with vm := s.vm } : State) L R.cells R.slots
theorem own_at.here (A : own_at p l e R s m args below meth c n0 T cells slots its) : At T m c below := by
  obtain ⟨_, X, _⟩ := A; exact X.here
theorem own_at.more (A : own_at p l e R s m args below meth c n0 T cells slots its) {cells' slots' : Nat} (hc : cells ≤ cells') (hs : slots ≤ slots') : own_at p l e R s m args below meth c n0 T cells' slots' its := by
  obtain ⟨L, X, r⟩ := A; exact ⟨L, X.more hc hs, r⟩
theorem own_by {u u' : State} (q : ∀ target, Steps p.tables e below u' target → Steps p.tables e below u target) (k : own_go p e R s below n0 Q u') : own_go p e R s below n0 Q u := by
  obtain ⟨t, v, L, i, h1, r⟩ := k
  exact ⟨t, v, L, i, q t h1, r⟩
theorem own_nil {α : Type} {P : α → Prop} : ∀ x ∈ ([] : List α), P x := fun _ q => nomatch q
theorem own_cons {α : Type} {P : α → Prop} {y : α} {L : List α} (q : P y) (r : ∀ x ∈ L, P x) : ∀ x ∈ y :: L, P x := fun x z => (List.mem_cons.mp z).elim (fun u => u ▸ q) (r x)
theorem own_hp.push (H : own_hp n0 h its) {cl : Cell} {P : Cell → Prop} (hP : P cl) : own_hp n0 (h.push cl) (its ++ [P]) := by
  refine ⟨by rw [Array.size_push, H.1, List.length_append]; rfl, fun i P' hi => ?_⟩
  by_cases q : i < its.length
  · rw [List.getElem?_append_left q] at hi
    obtain ⟨c, h1, h2⟩ := H.2 i P' hi
    refine ⟨c, ?_, h2⟩
    rw [Array.getElem?_push_lt (Array.getElem?_eq_some_iff.mp h1).1]
    exact (Array.getElem?_eq_getElem _).symm.trans h1
  · have q2 : i = its.length := by
      have := (List.getElem?_eq_some_iff.mp hi).1
      simp only [List.length_append, List.length_cons, List.length_nil] at this
      omega
    subst q2
    simp only [List.getElem?_concat_length, Option.some.injEq] at hi
    subst hi
    refine ⟨cl, ?_, hP⟩
    rw [← H.1]; simp
theorem own_hp.wr (H : own_hp n0 h its) {i sl : Nat} {v : Value} {P P' : Cell → Prop} (hi : its[i]? = some P) (W : Wr h h' (n0 + i) sl v) (hP : ∀ cl, h[n0 + i]? = some cl → P cl → P' (cl.setSlot sl v)) : own_hp n0 h' (its.set i P') := by
  obtain ⟨cell, w1, w2, w3, rfl⟩ := W
  refine ⟨by rw [Array.size_setIfInBounds, List.length_set]; exact H.1, fun j P2 hj => ?_⟩
  by_cases q : i = j
  · subst q
    have hl := (List.getElem?_eq_some_iff.mp hi).1
    rw [List.getElem?_set_self hl] at hj
    cases hj
    obtain ⟨cl, g1, g2⟩ := H.2 i P hi
    cases w1.symm.trans g1
    exact ⟨cell.setSlot sl v, by simp [(Array.getElem?_eq_some_iff.mp w1).1], hP _ w1 g2⟩
  · rw [List.getElem?_set_ne q] at hj
    obtain ⟨cl, g1, g2⟩ := H.2 j P2 hj
    exact ⟨cl, by rw [Array.getElem?_setIfInBounds_ne (by omega)]; exact g1, g2⟩
theorem own_geti {i : Nat} {P P' : Cell → Prop} (hi : its[i]? = some P) : (its.set i P')[i]? = some P' := List.getElem?_set_self (List.getElem?_eq_some_iff.mp hi).1
/-- an object of just that class, its fields ns holding vs -/
def own_obj (Z : State) (C : String) (ns : List (String × String)) (vs : List Value) : Cell → Prop := fun cl => ∀ (h : Heap) (a : Addr), h[a]? = some cl → Exa Z h a C ∧ ∀ (i : Nat) (f : String × String) (v : Value), ns[i]? = some f → vs[i]? = some v → Fld Z h a C f.1 f.2 v
/-- an array of ints (shorts, chars, bytes) -/
def own_ia (Z : State) (ty : FieldType) (xs : List Int32) : Cell → Prop := fun cl => xs.length < 2 ^ 31 ∧ cl.slots = (xs.map Value.int).toArray ∧ Z.isArrayOf cl ty ∧ cl.vm ≠ .unknown ∧ (∀ x ∈ xs, fits ty (.int x) = true) ∧ Z.vm.findClass ("[" ++ ty.toString) = some cl.cls
/-- an array of longs -/
def own_la (Z : State) (xs : List Int64) : Cell → Prop := fun cl => xs.length < 2 ^ 31 ∧ cl.slots = (xs.map Value.long).toArray ∧ Z.isArrayOf cl .long ∧ cl.vm ≠ .unknown
/-- the fields' places are unlike -/
def own_apart (Z : State) (C : String) (ns : List (String × String)) : Prop := ∀ (i j : Nat) (f g : String × String), ns[i]? = some f → ns[j]? = some g → i ≠ j → Jvm.RoadKit.slotOf Z C f.1 f.2 ≠ Jvm.RoadKit.slotOf Z C g.1 g.2
theorem own_apart_of {C : String} {ns : List (String × String)} (hL : ∀ f ∈ ns, Laid Z a0 C C f.1 f.2 ∧ ∃ t, parseFieldDescriptor f.2 = some t) (hn : (ns.map (·.1)).Nodup) : own_apart Z C ns := by
  intro i j f g hi hj hij
  obtain ⟨l1, t1, d1⟩ := hL f (List.mem_of_getElem? hi)
  obtain ⟨l2, t2, d2⟩ := hL g (List.mem_of_getElem? hj)
  refine slot_ne l1 l2 (fun q => ?_) d1 d2
  have e1 : (ns.map (·.1))[i]? = some f.1 := by rw [List.getElem?_map, hi]; rfl
  have e2 : (ns.map (·.1))[j]? = some g.1 := by rw [List.getElem?_map, hj]; rfl
  obtain ⟨b1, c1⟩ := List.getElem?_eq_some_iff.mp e1
  obtain ⟨b2, c2⟩ := List.getElem?_eq_some_iff.mp e2
  have pw := List.pairwise_iff_getElem.mp hn
  rcases Nat.lt_or_gt_of_ne hij with z | z
  · exact pw i j b1 b2 z (by rw [c1, c2, q])
  · exact pw j i b2 b1 z (by rw [c1, c2, q])
theorem own_obj.set {C : String} {ns : List (String × String)} {vs : List Value} {j : Nat} {n d : String} {v old : Value} {cl : Cell} (O : own_obj Z C ns vs cl) (ap : own_apart Z C ns) (hj : ns[j]? = some (n, d)) (hv : vs[j]? = some old) (hlt : Jvm.RoadKit.slotOf Z C n d < cl.slots.size) (hst : cl.vm.isStatics = false) : own_obj Z C ns (vs.set j v) (cl.setSlot (Jvm.RoadKit.slotOf Z C n d) v) := by
  intro h2 a2 ha2
  have hb : (#[cl] : Heap)[0]? = some cl := rfl
  have W : Wr (#[cl] : Heap) (#[cl.setSlot (Jvm.RoadKit.slotOf Z C n d) v] : Heap) 0 (Jvm.RoadKit.slotOf Z C n d) v := ⟨cl, hb, hst, hlt, rfl⟩
  obtain ⟨E, F⟩ := O _ _ hb
  have E' : Exa Z (#[cl.setSlot (Jvm.RoadKit.slotOf Z C n d) v] : Heap) 0 C := E.wr W
  refine ⟨?_, fun i f w hi hw => ?_⟩
  · obtain ⟨c1, k, q1, r⟩ := E'
    cases (show (#[cl.setSlot (Jvm.RoadKit.slotOf Z C n d) v] : Heap)[0]? = some _ from rfl).symm.trans q1
    exact ⟨_, k, ha2, r⟩
  · have F' : Fld Z (#[cl.setSlot (Jvm.RoadKit.slotOf Z C n d) v] : Heap) 0 C f.1 f.2 w := by
      by_cases q : j = i
      · subst q
        cases hj.symm.trans hi
        rw [List.getElem?_set_self (List.getElem?_eq_some_iff.mp hv).1] at hw
        cases hw
        exact (F j (n, d) old hj hv).same W
      · rw [List.getElem?_set_ne q] at hw
        exact (F i f w hi hw).other W (Or.inr (ap i j f (n, d) hi hj (Ne.symm q)))
    obtain ⟨c1, cf, k, i1, f1, q1, r⟩ := F'
    cases (show (#[cl.setSlot (Jvm.RoadKit.slotOf Z C n d) v] : Heap)[0]? = some _ from rfl).symm.trans q1
    exact ⟨_, cf, k, i1, f1, ha2, r⟩
theorem own_db {bs : ByteArray} (h1 : c.code = bs) {r : Except DecodeError (Instr × Nat)} (h2 : decode bs pc = r) : decode c.code pc = r := h1 ▸ h2
/-! steps -/
theorem own_new (A : own_at p l e R s m args below meth c n0 T cells slots its) (hx : p.tables.exec = Jvm.exec) (hZ : Z.Warmed39 s.vm) {C : String} {index n : Nat} (hown : s.vm.findClass own = some m.cls) (w : (Cond.classLink own index C).before a0 Z = true) (wi : (Cond.instantiable C n).before a0 Z = true) (wz : (Cond.initialized C).before a0 Z = true)
    {ns : List (String × String)} {vs : List Value} (hns : ∀ f ∈ ns.zip vs, Laid Z a0 C C f.1.1 f.1.2 ∧ ∃ ty, parseFieldDescriptor f.1.2 = some ty ∧ f.2 = defaultValue ty)
    (hd : decode c.code pc = .ok (.new index, 3)) (hc : cells + 1 ≤ R.cells) (hl : slots + n ≤ R.slots)
    (k : ∀ T', own_at p l e R s m args below meth c n0 T' (cells + 1) (slots + n) (its ++ [own_obj Z C ns vs]) → own_go p e R s below n0 Q (T'.setTop (mkF m (pc + 3) Ls (.ref (n0 + its.length) :: stk)))) :
    own_go p e R s below n0 Q (T.setTop (mkF m pc Ls stk)) := by
  obtain ⟨L, X, N, H⟩ := A
  obtain ⟨vm', cC, kC, h1, h2, h3, h4, X', st⟩ := X.newCold hx hown (mv hZ w) (mv hZ wi) (mv hZ wz) (g := mkF m pc Ls stk) rfl hd hc hl
  rw [H.1] at st
  rw [hZ.alike.findClass] at h1
  obtain ⟨kZ, z1, -⟩ := Vm.findClass_spec h1
  obtain ⟨k', z2, z3⟩ := hZ.alike.2.2 _ _ z1
  cases h2.symm.trans z2
  have ei : kC.instanceTypes = kZ.instanceTypes := by rw [z3]
  refine own_by st (k _ ⟨L, X', N, H.push fun h2 a2 ha2 => ⟨⟨_, kZ, ha2, h1, z1, rfl, fun _ => by simp [ei]⟩, fun i f v hi hv => ?_⟩⟩)
  have hz : (ns.zip vs)[i]? = some (f, v) := List.getElem?_zip_eq_some.mpr ⟨hi, hv⟩
  obtain ⟨La, ty, ht, hdv⟩ := hns _ (List.mem_of_getElem? hz)
  obtain ⟨c1, k1, cf, kf, i1, f1, a1, a2', a3, a4, a5, a6, -⟩ := La.spec
  cases h1.symm.trans a1
  cases z1.symm.trans a2'
  dsimp only at hdv ht a3
  subst hdv
  exact ⟨_, cf, kf, i1, f1, ha2, a3, a4, by simp, rfl, a5, by simp [ei, a6, (State.fieldFound?_type a3 ht).2]⟩
theorem own_fit0 {ty : FieldType} (h0 : defaultValue ty = .int 0) : fits ty (.int 0) = true := by
  cases ty <;> first | rfl | (simp [defaultValue] at h0)
theorem own_newP (A : own_at p l e R s m args below meth c n0 T cells slots its) (hx : p.tables.exec = Jvm.exec) (hZ : Z.Warmed39 s.vm) {aty : ArrayType} (w : (Cond.arrayClass (newarray.typeOf aty)).before a0 Z = true)
    (hd : decode c.code pc = .ok (.newarray aty, 2)) {n : Int32} (q : Nat) (hn : ¬ n < 0 ∧ n.toNatClampNeg = q) {cap : Nat} (hcap : q ≤ cap) (hb : cap * 8 ≤ 536870912) (h0 : defaultValue (newarray.typeOf aty) = .int 0) (hc : cells + 1 ≤ R.cells) (hl : slots + cap ≤ R.slots)
    (k : ∀ T', own_at p l e R s m args below meth c n0 T' (cells + 1) (slots + cap) (its ++ [own_ia Z (newarray.typeOf aty) (List.replicate q 0)]) → own_go p e R s below n0 Q (T'.setTop (mkF m (pc + 2) Ls (.ref (n0 + its.length) :: stk)))) :
    own_go p e R s below n0 Q (T.setTop (mkF m pc Ls (.int n :: stk))) := by
  obtain ⟨L, X, N, H⟩ := A
  obtain ⟨hn, rfl⟩ := hn
  have hcb : componentBytes (newarray.typeOf aty) ≤ 8 := by cases aty <;> decide
  obtain ⟨cA, kA, comp, h1, h2, h3, X', st⟩ := X.newarrayPrim hx (mvA hZ w) (g := mkF m pc Ls (.int n :: stk)) rfl hd rfl hn (Nat.le_trans (Nat.mul_le_mul hcap hcb) hb) hc (by omega)
  rw [H.1] at st
  rw [hZ.alike.findClass] at h1
  obtain ⟨kZ, z1, -⟩ := Vm.findClass_spec h1
  obtain ⟨k', z2, z3⟩ := hZ.alike.2.2 _ _ z1
  cases h2.symm.trans z2
  refine own_by st (k _ ⟨L, X'.more (Nat.le_refl _) (by omega), N, H.push ⟨by rw [List.length_replicate]; exact n.toNatClampNeg_lt, by rw [h0]; simp [List.map_replicate], ⟨by simp, kZ, z1, comp, by rw [← h3, z3]⟩, by simp, fun x hx => ?_, h1⟩⟩)
  rw [List.eq_of_mem_replicate hx]
  exact own_fit0 h0
theorem own_newL (A : own_at p l e R s m args below meth c n0 T cells slots its) (hx : p.tables.exec = Jvm.exec) (hZ : Z.Warmed39 s.vm) (w : (Cond.arrayClass .long).before a0 Z = true)
    (hd : decode c.code pc = .ok (.newarray .long, 2)) {n : Int32} (q : Nat) (hn : ¬ n < 0 ∧ n.toNatClampNeg = q) {cap : Nat} (hcap : q ≤ cap) (hb : cap * 8 ≤ 536870912) (hc : cells + 1 ≤ R.cells) (hl : slots + cap ≤ R.slots)
    (k : ∀ T', own_at p l e R s m args below meth c n0 T' (cells + 1) (slots + cap) (its ++ [own_la Z (List.replicate q 0)]) → own_go p e R s below n0 Q (T'.setTop (mkF m (pc + 2) Ls (.ref (n0 + its.length) :: stk)))) :
    own_go p e R s below n0 Q (T.setTop (mkF m pc Ls (.int n :: stk))) := by
  obtain ⟨L, X, N, H⟩ := A
  obtain ⟨hn, rfl⟩ := hn
  obtain ⟨cA, kA, comp, h1, h2, h3, X', st⟩ := X.newarrayPrim hx (atype := .long) (mvA hZ w) (g := mkF m pc Ls (.int n :: stk)) rfl hd rfl hn (Nat.le_trans (Nat.mul_le_mul hcap (by decide)) hb) hc (by omega)
  rw [H.1] at st
  rw [hZ.alike.findClass] at h1
  obtain ⟨kZ, z1, -⟩ := Vm.findClass_spec h1
  obtain ⟨k', z2, z3⟩ := hZ.alike.2.2 _ _ z1
  cases h2.symm.trans z2
  exact own_by st (k _ ⟨L, X'.more (Nat.le_refl _) (by omega), N, H.push ⟨by rw [List.length_replicate]; exact n.toNatClampNeg_lt, by simp [List.map_replicate, newarray.typeOf, defaultValue], ⟨by simp, kZ, z1, comp, by rw [z3] at h3; exact h3⟩, by simp⟩⟩)
theorem own_getF (A : own_at p l e R s m args below meth c n0 T cells slots its) (hx : p.tables.exec = Jvm.exec) (hZ : Z.Warmed39 s.vm) {C n d : String} {index i : Nat} (hown : s.vm.findClass own = some m.cls) (w : (Cond.fieldLink own index C n d).before a0 Z = true)
    {ns : List (String × String)} {vs : List Value} (hi : its[i]? = some (own_obj Z C ns vs)) (j : Nat) (hj : ns[j]? = some (n, d)) {v : Value} (hv : vs[j]? = some v) (hd : decode c.code pc = .ok (.getfield index, 3))
    (k : ∀ T', own_at p l e R s m args below meth c n0 T' cells slots its → own_go p e R s below n0 Q (T'.setTop (mkF m (pc + 3) Ls (v :: stk)))) :
    own_go p e R s below n0 Q (T.setTop (mkF m pc Ls (.ref (n0 + i) :: stk))) := by
  obtain ⟨L, X, N, H⟩ := A
  obtain ⟨cl, g1, g2⟩ := H.2 i _ hi
  obtain ⟨T', X', e', st⟩ := getF X hx hZ hown (host := "") (Or.inl w) Via.refl rfl ((g2 _ _ g1).2 j _ v hj hv) (g := mkF m pc Ls (.ref (n0 + i) :: stk)) rfl rfl hd
  exact own_by st (k T' ⟨L, X', N, by rw [e']; exact H⟩)
theorem own_putF (A : own_at p l e R s m args below meth c n0 T cells slots its) (hx : p.tables.exec = Jvm.exec) (hZ : Z.Warmed39 s.vm) {C n d : String} {index i kk : Nat} {ty : FieldType} (hown : s.vm.findClass own = some m.cls) (w : (Cond.fieldLink own index C n d).before a0 Z = true)
    {ns : List (String × String)} {vs : List Value} (hi : its[i]? = some (own_obj Z C ns vs)) (j : Nat) (hj : ns[j]? = some (n, d)) {v v' old : Value} (hv : vs[j]? = some old) (ap : own_apart Z C ns)
    (La : (Cond.lays C C n d).before a0 Z = true ∨ ((Cond.laysFinal C C n d).before a0 Z = true ∧ own = C ∧ meth.name = "<init>")) (wi : (Cond.instantiable C kk).before a0 Z = true) (hty : parseFieldDescriptor d = some ty) (hn : narrow ty v = v') (hf : fits ty v' = true)
    (hd : decode c.code pc = .ok (.putfield index, 3)) {its2 : List (Cell → Prop)} (h2 : its.set i (own_obj Z C ns (vs.set j v')) = its2)
    (k : ∀ T', own_at p l e R s m args below meth c n0 T' cells slots its2 → own_go p e R s below n0 Q (T'.setTop (mkF m (pc + 3) Ls stk))) :
    own_go p e R s below n0 Q (T.setTop (mkF m pc Ls (v :: .ref (n0 + i) :: stk))) := by
  obtain ⟨L, X, N, H⟩ := A
  obtain ⟨cl, g1, g2⟩ := H.2 i _ hi
  obtain ⟨T', h', X', e', W, st⟩ := putFN X hx hZ hown w Via.refl rfl ((g2 _ _ g1).2 j _ old hj hv) (g2 _ _ g1).1 La wi hty hn hf (g := mkF m pc Ls (v :: .ref (n0 + i) :: stk)) rfl rfl hd
  have N' := Fr.snoc X' N (Nat.le_add_right n0 i)
  have W2 := W
  obtain ⟨cl2, w1, w2, w3, -⟩ := W2
  refine own_by st (k T' ⟨_, X', N', ?_⟩)
  rw [e', ← h2]
  exact H.wr hi W fun cl3 q1 q2 => by
    cases w1.symm.trans q1
    exact q2.set ap hj hv w3 w2
theorem own_ia.arr {ty : FieldType} {xs : List Int32} {cl : Cell} (O : own_ia Z ty xs cl) {a : Addr} (hc : h[a]? = some cl) : Arr Z h a cl ty := ⟨hc, O.2.2.1, O.2.2.2.1⟩
theorem own_ia.inb {ty : FieldType} {xs : List Int32} {cl : Cell} (O : own_ia Z ty xs cl) {j : Int32} {x : Int32} (hj : ¬ j < 0 ∧ xs[j.toNatClampNeg]? = some x) : ¬ (j < 0 ∨ cl.slots.size ≤ j.toNatClampNeg) ∧ cl.slots[j.toNatClampNeg]? = some (.int x) := by
  have hl := (List.getElem?_eq_some_iff.mp hj.2).1
  refine ⟨fun q => q.elim hj.1 fun q2 => ?_, ?_⟩
  · rw [O.2.1] at q2; simp at q2; omega
  · rw [O.2.1]; simp [hj.2]
theorem own_la.inb {xs : List Int64} {cl : Cell} (O : own_la Z xs cl) {j : Int32} {x : Int64} (hj : ¬ j < 0 ∧ xs[j.toNatClampNeg]? = some x) : ¬ (j < 0 ∨ cl.slots.size ≤ j.toNatClampNeg) ∧ cl.slots[j.toNatClampNeg]? = some (.long x) := by
  have hl := (List.getElem?_eq_some_iff.mp hj.2).1
  refine ⟨fun q => q.elim hj.1 fun q2 => ?_, ?_⟩
  · rw [O.2.1] at q2; simp at q2; omega
  · rw [O.2.1]; simp [hj.2]
theorem own_ia.set {ty : FieldType} {xs : List Int32} {cl : Cell} (O : own_ia Z ty xs cl) (q : Nat) {x : Int32} (hf : fits ty (.int x) = true) : own_ia Z ty (xs.set q x) (cl.setSlot q (.int x)) := by
  refine ⟨by rw [List.length_set]; exact O.1, ?_, O.2.2.1, O.2.2.2.1, fun y hy => ?_, O.2.2.2.2.2⟩
  · rw [Cell.setSlot]; show cl.slots.setIfInBounds q _ = _
    rw [O.2.1, List.setIfInBounds_toArray, List.map_set]
  · rcases List.mem_or_eq_of_mem_set hy with q | rfl
    · exact O.2.2.2.2.1 y q
    · exact hf
theorem own_la.set {xs : List Int64} {cl : Cell} (O : own_la Z xs cl) (q : Nat) {x : Int64} : own_la Z (xs.set q x) (cl.setSlot q (.long x)) := by
  refine ⟨by rw [List.length_set]; exact O.1, ?_, O.2.2.1, O.2.2.2⟩
  rw [Cell.setSlot]; show cl.slots.setIfInBounds q _ = _
  rw [O.2.1, List.setIfInBounds_toArray, List.map_set]
theorem own_iaload (A : own_at p l e R s m args below meth c n0 T cells slots its) (hx : p.tables.exec = Jvm.exec) (hZ : Z.Warmed39 s.vm) {i : Nat} {xs : List Int32} (hi : its[i]? = some (own_ia Z .int xs)) {j x : Int32} (hj : ¬ j < 0 ∧ xs[j.toNatClampNeg]? = some x) (hd : decode c.code pc = .ok (.iaload, 1))
    (k : own_go p e R s below n0 Q (T.setTop (mkF m (pc + 1) Ls (.int x :: stk)))) : own_go p e R s below n0 Q (T.setTop (mkF m pc Ls (.int j :: .ref (n0 + i) :: stk))) := by
  obtain ⟨L, X, N, H⟩ := A
  obtain ⟨cl, g1, g2⟩ := H.2 i _ hi
  exact own_by (fun t k => X.iaload hx g1 (State.isArrayOf_alike hZ.alike g2.2.2.1) g2.2.2.2.1 (g2.inb hj).1 (g2.inb hj).2 (g := mkF m pc Ls (.int j :: .ref (n0 + i) :: stk)) rfl rfl hd t k) k
theorem own_caload (A : own_at p l e R s m args below meth c n0 T cells slots its) (hx : p.tables.exec = Jvm.exec) (hZ : Z.Warmed39 s.vm) {i : Nat} {xs : List Int32} (hi : its[i]? = some (own_ia Z .char xs)) {j x : Int32} (hj : ¬ j < 0 ∧ xs[j.toNatClampNeg]? = some x) (hd : decode c.code pc = .ok (.caload, 1))
    (k : own_go p e R s below n0 Q (T.setTop (mkF m (pc + 1) Ls (.int x :: stk)))) : own_go p e R s below n0 Q (T.setTop (mkF m pc Ls (.int j :: .ref (n0 + i) :: stk))) := by
  obtain ⟨L, X, N, H⟩ := A
  obtain ⟨cl, g1, g2⟩ := H.2 i _ hi
  exact own_by (fun t k => X.caload hx g1 (State.isArrayOf_alike hZ.alike g2.2.2.1) g2.2.2.2.1 (g2.inb hj).1 (g2.inb hj).2 (g := mkF m pc Ls (.int j :: .ref (n0 + i) :: stk)) rfl rfl hd t k) k
theorem own_baload (A : own_at p l e R s m args below meth c n0 T cells slots its) (hx : p.tables.exec = Jvm.exec) (hZ : Z.Warmed39 s.vm) {i : Nat} {xs : List Int32} (hi : its[i]? = some (own_ia Z .byte xs)) {j x : Int32} (hj : ¬ j < 0 ∧ xs[j.toNatClampNeg]? = some x) (hd : decode c.code pc = .ok (.baload, 1))
    (k : own_go p e R s below n0 Q (T.setTop (mkF m (pc + 1) Ls (.int x :: stk)))) : own_go p e R s below n0 Q (T.setTop (mkF m pc Ls (.int j :: .ref (n0 + i) :: stk))) := by
  obtain ⟨L, X, N, H⟩ := A
  obtain ⟨cl, g1, g2⟩ := H.2 i _ hi
  exact own_by (fun t k => X.baloadBytes hx g1 (State.isArrayOf_alike hZ.alike g2.2.2.1) g2.2.2.2.1 (g2.inb hj).1 (g2.inb hj).2 (g := mkF m pc Ls (.int j :: .ref (n0 + i) :: stk)) rfl rfl hd t k) k
theorem own_laload (A : own_at p l e R s m args below meth c n0 T cells slots its) (hx : p.tables.exec = Jvm.exec) (hZ : Z.Warmed39 s.vm) {i : Nat} {xs : List Int64} (hi : its[i]? = some (own_la Z xs)) {j : Int32} {x : Int64} (hj : ¬ j < 0 ∧ xs[j.toNatClampNeg]? = some x) (hd : decode c.code pc = .ok (.laload, 1))
    (k : own_go p e R s below n0 Q (T.setTop (mkF m (pc + 1) Ls (.long x :: stk)))) : own_go p e R s below n0 Q (T.setTop (mkF m pc Ls (.int j :: .ref (n0 + i) :: stk))) := by
  obtain ⟨L, X, N, H⟩ := A
  obtain ⟨cl, g1, g2⟩ := H.2 i _ hi
  exact own_by (fun t k => X.laload hx g1 (State.isArrayOf_alike hZ.alike g2.2.2.1) g2.2.2.2 (g2.inb hj).1 (g2.inb hj).2 (g := mkF m pc Ls (.int j :: .ref (n0 + i) :: stk)) rfl rfl hd t k) k
theorem own_at.wrote (N : Fr n0 locs) (H : own_hp n0 h its) {T' : State} {i sl : Nat} {v : Value} {P P' : Cell → Prop} (X' : Stand p l e R s m args below meth c T' (locs ++ [⟨n0 + i, sl⟩]) cells slots) (e' : T'.heap = h') (hi : its[i]? = some P) (W : Wr h h' (n0 + i) sl v) (hP : ∀ cl, h[n0 + i]? = some cl → P cl → P' (cl.setSlot sl v)) : own_at p l e R s m args below meth c n0 T' cells slots (its.set i P') :=
  ⟨_, X', Fr.snoc X' N (Nat.le_add_right n0 i), by rw [e']; exact H.wr hi W hP⟩
theorem own_ib {xs : List Int32} {ty : FieldType} {cl : Cell} (O : own_ia Z ty xs cl) {j : Int32} {q : Nat} (hj : ¬ j < 0 ∧ j.toNatClampNeg = q ∧ q < xs.length) : ¬ (j < 0 ∨ cl.slots.size ≤ j.toNatClampNeg) := by
  obtain ⟨h1, rfl, h3⟩ := hj
  refine fun z => z.elim h1 fun z => ?_
  rw [O.2.1] at z; simp at z; omega
theorem own_iastore (A : own_at p l e R s m args below meth c n0 T cells slots its) (hx : p.tables.exec = Jvm.exec) (hZ : Z.Warmed39 s.vm) {i : Nat} {xs : List Int32} (hi : its[i]? = some (own_ia Z .int xs)) {j x : Int32} (q : Nat) (hj : ¬ j < 0 ∧ j.toNatClampNeg = q ∧ q < xs.length) (hd : decode c.code pc = .ok (.iastore, 1)) {its2 : List (Cell → Prop)} (h2 : its.set i (own_ia Z .int (xs.set q x)) = its2)
    (k : ∀ T', own_at p l e R s m args below meth c n0 T' cells slots its2 → own_go p e R s below n0 Q (T'.setTop (mkF m (pc + 1) Ls stk))) : own_go p e R s below n0 Q (T.setTop (mkF m pc Ls (.int x :: .int j :: .ref (n0 + i) :: stk))) := by
  obtain ⟨L, X, N, H⟩ := A
  obtain ⟨cl, g1, g2⟩ := H.2 i _ hi
  obtain ⟨T', h', X', e', W, st⟩ := stI X hx hZ rfl (g2.arr g1) (own_ib g2 hj) (g := mkF m pc Ls (.int x :: .int j :: .ref (n0 + i) :: stk)) rfl rfl hd
  obtain ⟨j1, rfl, j3⟩ := hj
  exact own_by st (k T' (h2 ▸ own_at.wrote N H X' e' hi W fun cl _ O => O.set _ rfl))
theorem own_castore (A : own_at p l e R s m args below meth c n0 T cells slots its) (hx : p.tables.exec = Jvm.exec) (hZ : Z.Warmed39 s.vm) {i : Nat} {xs : List Int32} (hi : its[i]? = some (own_ia Z .char xs)) {j x : Int32} (q : Nat) (hj : ¬ j < 0 ∧ j.toNatClampNeg = q ∧ q < xs.length) (hd : decode c.code pc = .ok (.castore, 1)) {its2 : List (Cell → Prop)} (h2 : its.set i (own_ia Z .char (xs.set q (nar .char x))) = its2)
    (k : ∀ T', own_at p l e R s m args below meth c n0 T' cells slots its2 → own_go p e R s below n0 Q (T'.setTop (mkF m (pc + 1) Ls stk))) : own_go p e R s below n0 Q (T.setTop (mkF m pc Ls (.int x :: .int j :: .ref (n0 + i) :: stk))) := by
  obtain ⟨L, X, N, H⟩ := A
  obtain ⟨cl, g1, g2⟩ := H.2 i _ hi
  obtain ⟨T', h', X', e', W, st⟩ := stC X hx hZ rfl (g2.arr g1) (own_ib g2 hj) (g := mkF m pc Ls (.int x :: .int j :: .ref (n0 + i) :: stk)) rfl rfl hd
  obtain ⟨j1, rfl, j3⟩ := hj
  exact own_by st (k T' (h2 ▸ own_at.wrote N H X' e' hi W fun cl _ O => O.set _ (fits_nar_char x)))
theorem own_bastore (A : own_at p l e R s m args below meth c n0 T cells slots its) (hx : p.tables.exec = Jvm.exec) (hZ : Z.Warmed39 s.vm) {i : Nat} {xs : List Int32} (hi : its[i]? = some (own_ia Z .byte xs)) {j x : Int32} (q : Nat) (hj : ¬ j < 0 ∧ j.toNatClampNeg = q ∧ q < xs.length) (hd : decode c.code pc = .ok (.bastore, 1)) {its2 : List (Cell → Prop)} (h2 : its.set i (own_ia Z .byte (xs.set q (nar .byte x))) = its2)
    (k : ∀ T', own_at p l e R s m args below meth c n0 T' cells slots its2 → own_go p e R s below n0 Q (T'.setTop (mkF m (pc + 1) Ls stk))) : own_go p e R s below n0 Q (T.setTop (mkF m pc Ls (.int x :: .int j :: .ref (n0 + i) :: stk))) := by
  obtain ⟨L, X, N, H⟩ := A
  obtain ⟨cl, g1, g2⟩ := H.2 i _ hi
  obtain ⟨T', h', X', e', W, st⟩ := stB X hx hZ rfl (g2.arr g1) (own_ib g2 hj) (g := mkF m pc Ls (.int x :: .int j :: .ref (n0 + i) :: stk)) rfl rfl hd
  obtain ⟨j1, rfl, j3⟩ := hj
  exact own_by st (k T' (h2 ▸ own_at.wrote N H X' e' hi W fun cl _ O => O.set _ (fits_nar_byte x)))
theorem own_lastore (A : own_at p l e R s m args below meth c n0 T cells slots its) (hx : p.tables.exec = Jvm.exec) (hZ : Z.Warmed39 s.vm) {i : Nat} {xs : List Int64} (hi : its[i]? = some (own_la Z xs)) {j : Int32} {x : Int64} (q : Nat) (hj : ¬ j < 0 ∧ j.toNatClampNeg = q ∧ q < xs.length) (hd : decode c.code pc = .ok (.lastore, 1)) {its2 : List (Cell → Prop)} (h2 : its.set i (own_la Z (xs.set q x)) = its2)
    (k : ∀ T', own_at p l e R s m args below meth c n0 T' cells slots its2 → own_go p e R s below n0 Q (T'.setTop (mkF m (pc + 1) Ls stk))) : own_go p e R s below n0 Q (T.setTop (mkF m pc Ls (.long x :: .int j :: .ref (n0 + i) :: stk))) := by
  obtain ⟨L, X, N, H⟩ := A
  obtain ⟨cl, g1, g2⟩ := H.2 i _ hi
  obtain ⟨j1, rfl, j3⟩ := hj
  have hb : ¬ (j < 0 ∨ cl.slots.size ≤ j.toNatClampNeg) := fun z => z.elim j1 fun z => by rw [g2.2.1] at z; simp at z; omega
  obtain ⟨T', h', X', e', W, st⟩ := stJ X hx hZ rfl (⟨g1, g2.2.2.1, g2.2.2.2⟩ : Arr Z T.heap (n0 + i) cl .long) hb (g := mkF m pc Ls (.long x :: .int j :: .ref (n0 + i) :: stk)) rfl rfl hd
  exact own_by st (k T' (h2 ▸ own_at.wrote N H X' e' hi W fun cl _ O => O.set _))
theorem own_len (A : own_at p l e R s m args below meth c n0 T cells slots its) (hx : p.tables.exec = Jvm.exec) (hZ : Z.Warmed39 s.vm) {i : Nat} {ty : FieldType} {xs : List Int32} (hi : its[i]? = some (own_ia Z ty xs)) {z : Int32} (hz : xs.length.toInt32 = z) (hd : decode c.code pc = .ok (.arraylength, 1))
    (k : own_go p e R s below n0 Q (T.setTop (mkF m (pc + 1) Ls (.int z :: stk)))) : own_go p e R s below n0 Q (T.setTop (mkF m pc Ls (.ref (n0 + i) :: stk))) := by
  obtain ⟨L, X, N, H⟩ := A
  obtain ⟨cl, g1, g2⟩ := H.2 i _ hi
  have q : cl.slots.size.toInt32 = z := by rw [g2.2.1]; simpa using hz
  subst q
  exact own_by (fun t k => X.arraylength hx g1 (State.isArrayOf_alike hZ.alike g2.2.2.1) (g := mkF m pc Ls (.ref (n0 + i) :: stk)) rfl rfl hd t k) k
theorem own_lenL (A : own_at p l e R s m args below meth c n0 T cells slots its) (hx : p.tables.exec = Jvm.exec) (hZ : Z.Warmed39 s.vm) {i : Nat} {xs : List Int64} (hi : its[i]? = some (own_la Z xs)) {z : Int32} (hz : xs.length.toInt32 = z) (hd : decode c.code pc = .ok (.arraylength, 1))
    (k : own_go p e R s below n0 Q (T.setTop (mkF m (pc + 1) Ls (.int z :: stk)))) : own_go p e R s below n0 Q (T.setTop (mkF m pc Ls (.ref (n0 + i) :: stk))) := by
  obtain ⟨L, X, N, H⟩ := A
  obtain ⟨cl, g1, g2⟩ := H.2 i _ hi
  have q : cl.slots.size.toInt32 = z := by rw [g2.2.1]; simpa using hz
  subst q
  exact own_by (fun t k => X.arraylength hx g1 (State.isArrayOf_alike hZ.alike g2.2.2.1) (g := mkF m pc Ls (.ref (n0 + i) :: stk)) rfl rfl hd t k) k
theorem own_ldcI (A : own_at p l e R s m args below meth c n0 T cells slots its) (hx : p.tables.exec = Jvm.exec) (hZ : Z.Warmed39 s.vm) (hown : s.vm.findClass own = some m.cls) {index : Nat} {v : Int32} (w : (Cond.constant own index v).before a0 Z = true) (hd : decode c.code pc = .ok (.ldc index, 2))
    (k : own_go p e R s below n0 Q (T.setTop (mkF m (pc + 2) Ls (.int v :: stk)))) : own_go p e R s below n0 Q (T.setTop (mkF m pc Ls stk)) := by
  obtain ⟨L, X, N, H⟩ := A
  exact own_by (X.ldcInt hx hown (mvT hZ w) (g := mkF m pc Ls stk) rfl hd) k
theorem own_ldcJ (A : own_at p l e R s m args below meth c n0 T cells slots its) (hx : p.tables.exec = Jvm.exec) (hZ : Z.Warmed39 s.vm) (hown : s.vm.findClass own = some m.cls) {index : Nat} {v : Int64} (w : (Cond.constantLong own index v).before a0 Z = true) (hd : decode c.code pc = .ok (.ldc2_w index, 3))
    (k : own_go p e R s below n0 Q (T.setTop (mkF m (pc + 3) Ls (.long v :: stk)))) : own_go p e R s below n0 Q (T.setTop (mkF m pc Ls stk)) := by
  obtain ⟨L, X, N, H⟩ := A
  exact own_by (X.ldc2Long hx hown (mvT hZ w) (g := mkF m pc Ls stk) rfl hd) k
theorem own_irem (A : own_at p l e R s m args below meth c n0 T cells slots its) (hx : p.tables.exec = Jvm.exec) {x y : Int32} (hy : y ≠ 0) (hd : decode c.code pc = .ok (.irem, 1))
    (k : own_go p e R s below n0 Q (T.setTop (mkF m (pc + 1) Ls (.int (x % y) :: stk)))) : own_go p e R s below n0 Q (T.setTop (mkF m pc Ls (.int y :: .int x :: stk))) := by
  obtain ⟨L, X, N, H⟩ := A
  exact own_by (fun t k => iremM X hx (g := mkF m pc Ls (.int y :: .int x :: stk)) rfl hd rfl hy k) k
theorem own_lrem (A : own_at p l e R s m args below meth c n0 T cells slots its) (hx : p.tables.exec = Jvm.exec) {x y : Int64} (hy : y ≠ 0) (hd : decode c.code pc = .ok (.lrem, 1))
    (k : own_go p e R s below n0 Q (T.setTop (mkF m (pc + 1) Ls (.long (x % y) :: stk)))) : own_go p e R s below n0 Q (T.setTop (mkF m pc Ls (.long y :: .long x :: stk))) := by
  rw [← lrem_mod] at k
  exact own_by (fun t k => XS.lrem A.here hx (g := mkF m pc Ls (.long y :: .long x :: stk)) rfl hd rfl hy k) k
/-! the end -/
theorem own_ret (A : own_at p l e R s m args below meth c n0 T cells slots its) (hx : p.tables.exec = Jvm.exec) (hlk : meth.locks = false) {w : Value} {t : FieldType} {i : Instr} (hret : meth.sig.returnType = some t) (hn : narrow t w = w)
    (hi : (i = .ireturn ∧ (t = .int ∨ t = .boolean ∨ t = .byte ∨ t = .char ∨ t = .short) ∧ ∃ z, w = .int z) ∨ (i = .lreturn ∧ t = .long ∧ ∃ z, w = .long z) ∨ (i = .dreturn ∧ t = .double ∧ ∃ z, w = .double z) ∨ (i = .freturn ∧ t = .float ∧ ∃ z, w = .float z) ∨ (i = .areturn ∧ t.isReference = true ∧ w.isRef = true))
    (hd : decode c.code pc = .ok (i, 1)) (hc : cells ≤ R.cells) (hs : slots ≤ R.slots) (hQ : Q (some w) its) : own_go p e R s below n0 Q (T.setTop (mkF m pc Ls (w :: stk))) := by
  obtain ⟨L, X, N, H⟩ := A
  obtain ⟨fs, hr, hrun, hended, hW, hsame⟩ := X.leave (v := some w) (fun h => by rw [hret] at h; cases h) hlk
  exact ⟨_, _, _, _, retOut X hx hret hn hi hd hr, hrun, hended, hQ, N, H, hW, hsame.mono hc hs⟩
theorem own_retI (A : own_at p l e R s m args below meth c n0 T cells slots its) (hx : p.tables.exec = Jvm.exec) (hlk : meth.locks = false) {w : Int32} (hret : meth.sig.returnType = some .int) (hd : decode c.code pc = .ok (.ireturn, 1)) (hc : cells ≤ R.cells) (hs : slots ≤ R.slots) (hQ : Q (some (.int w)) its) : own_go p e R s below n0 Q (T.setTop (mkF m pc Ls (.int w :: stk))) :=
  own_ret A hx hlk hret rfl (Or.inl ⟨rfl, Or.inl rfl, w, rfl⟩) hd hc hs hQ
theorem own_retJ (A : own_at p l e R s m args below meth c n0 T cells slots its) (hx : p.tables.exec = Jvm.exec) (hlk : meth.locks = false) {w : Int64} (hret : meth.sig.returnType = some .long) (hd : decode c.code pc = .ok (.lreturn, 1)) (hc : cells ≤ R.cells) (hs : slots ≤ R.slots) (hQ : Q (some (.long w)) its) : own_go p e R s below n0 Q (T.setTop (mkF m pc Ls (.long w :: stk))) :=
  own_ret A hx hlk hret rfl (Or.inr (Or.inl ⟨rfl, rfl, w, rfl⟩)) hd hc hs hQ
theorem own_retA (A : own_at p l e R s m args below meth c n0 T cells slots its) (hx : p.tables.exec = Jvm.exec) (hlk : meth.locks = false) {a : Addr} {t : FieldType} (hret : meth.sig.returnType = some t) (hn : narrow t (.ref a) = .ref a) (ht : t.isReference = true) (hd : decode c.code pc = .ok (.areturn, 1)) (hc : cells ≤ R.cells) (hs : slots ≤ R.slots) (hQ : Q (some (.ref a)) its) : own_go p e R s below n0 Q (T.setTop (mkF m pc Ls (.ref a :: stk))) :=
  own_ret A hx hlk hret hn (Or.inr (Or.inr (Or.inr (Or.inr ⟨rfl, ht, rfl⟩)))) hd hc hs hQ
theorem own_retN (A : own_at p l e R s m args below meth c n0 T cells slots its) (hx : p.tables.exec = Jvm.exec) (hlk : meth.locks = false) {w : Int32} {t : FieldType} (ht : t = .boolean ∨ t = .byte ∨ t = .char ∨ t = .short) (hret : meth.sig.returnType = some t) (hd : decode c.code pc = .ok (.ireturn, 1)) (hc : cells ≤ R.cells) (hs : slots ≤ R.slots) (hQ : Q (some (.int (nar t w))) its) : own_go p e R s below n0 Q (T.setTop (mkF m pc Ls (.int w :: stk))) := by
  obtain ⟨L, X, N, H⟩ := A
  obtain ⟨fs, hr, hrun, hended, hW, hsame⟩ := X.leave (v := some (.int (nar t w))) (fun h => by rw [hret] at h; cases h) hlk
  exact ⟨_, _, _, _, retN X hx hret ht hd hr, hrun, hended, hQ, N, H, hW, hsame.mono hc hs⟩
theorem own_retV (A : own_at p l e R s m args below meth c n0 T cells slots its) (hx : p.tables.exec = Jvm.exec) (hlk : meth.locks = false) (hret : meth.sig.returnType = none) (hd : decode c.code pc = .ok (.return_, 1)) (hc : cells ≤ R.cells) (hs : slots ≤ R.slots) (hQ : Q none its) : own_go p e R s below n0 Q (T.setTop (mkF m pc Ls [])) := by
  obtain ⟨L, X, N, H⟩ := A
  obtain ⟨fs, hr, hrun, hended, hW, hsame⟩ := X.leave (v := none) (fun _ => rfl) hlk
  exact ⟨_, _, _, _, X.returnOut hx hret hd hr, hrun, hended, hQ, N, H, hW, hsame.mono hc hs⟩
/-! contracts -/
/-- a method's contract: with these arguments, over a heap whose new part is its, it returns as Q says -/
def own_met (l : Launch) (Z : State) (n0 : Nat) (y : MethodName) (bytes : ByteArray) (maxL : Nat) (ret : Option FieldType) (rm : Room) (as : Array Value) (its : List (Cell → Prop)) (Q : Option Value → List (Cell → Prop) → Prop) : Prop :=
  ∀ (h0 : Heap) (ws : List Jvm.Cond), own_hp n0 h0 its → MetFree l y (head1 (Jvm.Cond.code y bytes maxL ret :: ws) rm) (fun a U => a = as ∧ Z.Warmed39 U.vm ∧ U.heap = h0) (fun _ _ _ _ _ => True) (fun _ U o U' => ∃ v L, o = .returned v ∧ (Fr n0 L ∧ ∃ its', Q v its' ∧ own_hp n0 U'.heap its') ∧ FrameEnd U o U' L rm.cells rm.slots)
variable {y z : MethodName} {bytes : ByteArray} {maxL : Nat} {ret : Option FieldType} {rm : Room} {as : Array Value} {Q' : Option Value → List (Cell → Prop) → Prop}
theorem own_met.of (hpn : plainFor y = true)
    (body : ∀ (p : Program) (e : Env) (s : State) (m : MethodId) (below : List Frame) (meth : Method) (c : Code) (T : State), p.tables.exec = Jvm.exec → c.code = bytes → c.maxLocals = maxL → meth.sig.returnType = ret → meth.locks = false → Z.Warmed39 s.vm → s.vm.findClass y.cls = some m.cls → meth.name = y.name → own_at p l e rm s m as below meth c n0 T 0 0 its → own_go p e rm s below n0 Q (T.setTop (entryFrame m as maxL))) :
    own_met l Z n0 y bytes maxL ret rm as its Q := by
  intro h0 ws H
  refine MetFree.of_bodySF hpn hisR ?_
  intro p e s m args below meth c s₁ Bd hml0 hP hK
  obtain ⟨rfl, hZ, hh⟩ := hP
  have X0 : Stand p l e rm s m args below meth c s₁ [] 0 0 := Stand.of_body Bd
  have e0 : s₁.heap = h0 := by rw [← hh, Bd.state]; rfl
  obtain ⟨t, v, L, its', h1, h2, h3, h4, h5, h6, h7, h8⟩ := body p e s m below meth c s₁ Bd.exec Bd.bytes hml0 Bd.returns (BodyLoose.notSynchronized Bd) hZ (findClass_of_methodNamed Bd.named) (name_of_methodNamed Bd.named Bd.method).1 ⟨[], X0, Fr.nil n0, by rw [e0]; exact H⟩
  exact ⟨t, _, h1, h2, h3, v, L, rfl, ⟨h5, its', h4, h6⟩, ⟨_, rfl⟩, h7, h8⟩
theorem own_post {A B : Pt} {rm : Room} {v : Option Value} (hP : ∃ L, (Fr n0 L ∧ ∃ its', Q' v its' ∧ own_hp n0 B.U.heap its') ∧ B.locs = A.locs ++ L ∧ B.cells = A.cells + rm.cells ∧ B.slots = A.slots + rm.slots) (X : Stand p l e R s m args below meth c B.U B.locs B.cells B.slots) (N : Fr n0 A.locs) :
    ∃ its', Q' v its' ∧ own_at p l e R s m args below meth c n0 B.U (A.cells + rm.cells) (A.slots + rm.slots) its' := by
  obtain ⟨L, ⟨h1, its', h2, h3⟩, h4, h5, h6⟩ := hP
  rw [h4, h5, h6] at X
  exact ⟨its', h2, _, X, N.app h1, h3⟩
theorem own_callS (A : own_at p l e R s m args below meth c n0 T cells slots its) (hx : p.tables.exec = Jvm.exec) (hZ : Z.Warmed39 s.vm) (hown : s.vm.findClass own = some m.cls) {index : Nat} (w1 : (Cond.methodLink own index y).before a0 Z = true) (w2 : (Cond.static y).before a0 Z = true) (w3 : (Cond.initialized y.cls).before a0 Z = true) (w4 : (Cond.code y bytes maxL ret).before a0 Z = true)
    (hy : y.cls ≠ "java/lang/invoke/MethodHandle" ∧ y.cls ≠ "java/lang/invoke/VarHandle") (M : own_met l Z n0 y bytes maxL ret rm as its Q') (hml : Ls.size = c.maxLocals) (argsL : List Value) (has : argsL.toArray = as) (hstk : stk = argsL.reverse ++ rest) {ps : List FieldType} {r : Option FieldType} (pd : parseMethodDescriptor y.desc = some ⟨ps, r⟩) (hlen : argsL.length = ps.length)
    {W : Nat} (hW : 2 * 0 + (rest.map fun v => v.category).sum ≤ W) (hd : decode c.code pc = .ok (.invokestatic index, 3)) (hf : rm.frames + 1 ≤ R.frames) (hl : W + (maxL + 11) + rm.locals ≤ R.locals) (hc : cells + rm.cells ≤ R.cells) (hs : slots + rm.slots ≤ R.slots)
    (k : ∀ (v : Option Value) (its' : List (Cell → Prop)) (T' : State), Q' v its' → own_at p l e R s m args below meth c n0 T' (cells + rm.cells) (slots + rm.slots) its' → own_go p e R s below n0 Q (T'.setTop (mkF m (pc + 3) Ls (v.toList ++ rest)))) :
    own_go p e R s below n0 Q (T.setTop (mkF m pc Ls stk)) := by
  obtain ⟨L, X, N, H⟩ := A
  subst hstk has
  obtain ⟨v, vm1, B, -, XB, hP, st⟩ := Jvm.LawKit.callS X hx (y := y) hown (mvT hZ w1) (mvT hZ w2) (mvT hZ w3) (mvT hZ w4) hy (backOf (W := W) (Q := fun v h L => Fr n0 L ∧ ∃ its', Q' v its' ∧ own_hp n0 h its') (M T.heap [] H) hZ w4 w3 hf hl) (g := mkF m pc Ls (argsL.reverse ++ rest)) rfl hml (argsL := argsL) (rest := rest) (lenOf pd hlen) rfl hW hd (fun _ _ => ⟨rfl, rfl, hc, hs⟩)
  obtain ⟨its', q1, q2⟩ := own_post hP XB N
  exact own_by st (k v its' B.U q1 q2)
theorem own_tr {u u' : State} (st : Steps p.tables e below u u') (k : own_go p e R s below n0 Q u') : own_go p e R s below n0 Q u := own_by (fun _ q => st.trans q) k
theorem own_callC (A : own_at p l e R s m args below meth c n0 T cells slots its) (hx : p.tables.exec = Jvm.exec) (hZ : Z.Warmed39 s.vm) (hown : s.vm.findClass own = some m.cls) {index : Nat} (hy1 : y.name = "<init>") (w1 : (Cond.methodLink own index y).before a0 Z = true) (w2 : (Cond.instanceMethod y).before a0 Z = true) (w3 : (Cond.initialized y.cls).before a0 Z = true) (w4 : (Cond.code y bytes maxL none).before a0 Z = true)
    (hy : y.cls ≠ "java/lang/invoke/MethodHandle" ∧ y.cls ≠ "java/lang/invoke/VarHandle") (M : own_met l Z n0 y bytes maxL none rm as its Q') (hml : Ls.size = c.maxLocals) (a : Addr) (argsL : List Value) (has : (Value.ref a :: argsL).toArray = as) (hstk : stk = argsL.reverse ++ .ref a :: rest) {ps : List FieldType} {r : Option FieldType} (pd : parseMethodDescriptor y.desc = some ⟨ps, r⟩) (hlen : argsL.length = ps.length)
    {W : Nat} (hW : 2 * 0 + (rest.map fun v => v.category).sum ≤ W) (hd : decode c.code pc = .ok (.invokespecial index, 3)) (hf : rm.frames + 1 ≤ R.frames) (hl : W + (maxL + 11) + rm.locals ≤ R.locals) (hc : cells + rm.cells ≤ R.cells) (hs : slots + rm.slots ≤ R.slots)
    (k : ∀ (v : Option Value) (its' : List (Cell → Prop)) (T' : State), Q' v its' → own_at p l e R s m args below meth c n0 T' (cells + rm.cells) (slots + rm.slots) its' → own_go p e R s below n0 Q (T'.setTop (mkF m (pc + 3) Ls (v.toList ++ rest)))) :
    own_go p e R s below n0 Q (T.setTop (mkF m pc Ls stk)) := by
  obtain ⟨L, X, N, H⟩ := A
  subst hstk has
  obtain ⟨v, vm1, B, -, XB, hP, st⟩ := X.specialBack hx (y := y) hy1 hown (mvT hZ w1) (mvT hZ w2) (mvT hZ w4) hy (backOf (W := W) (Q := fun v h L => Fr n0 L ∧ ∃ its', Q' v its' ∧ own_hp n0 h its') (M T.heap [] H) hZ w4 w3 hf hl) (g := mkF m pc Ls (argsL.reverse ++ .ref a :: rest)) rfl hml (Steps.refl _) (a := a) (argsL := argsL) (rest := rest) (lenOf pd hlen) rfl hW hd (fun _ _ => ⟨rfl, rfl, hc, hs⟩)
  obtain ⟨its', q1, q2⟩ := own_post hP XB N
  exact own_tr st (k v its' B.U q1 q2)
theorem own_callV (A : own_at p l e R s m args below meth c n0 T cells slots its) (hx : p.tables.exec = Jvm.exec) (hZ : Z.Warmed39 s.vm) (hown : s.vm.findClass own = some m.cls) {index i : Nat} (w1 : (Cond.methodLink own index y).before a0 Z = true) (w2 : (Cond.declares y).before a0 Z = true) (w3 : (Cond.selects y.cls y y).before a0 Z = true) (w4 : (Cond.instanceMethod y).before a0 Z = true) (w5 : (Cond.initialized y.cls).before a0 Z = true) (w6 : (Cond.code y bytes maxL ret).before a0 Z = true)
    (hy : y.cls ≠ "java/lang/invoke/MethodHandle" ∧ y.cls ≠ "java/lang/invoke/VarHandle") {ns : List (String × String)} {vs : List Value} (hi : its[i]? = some (own_obj Z y.cls ns vs)) (M : own_met l Z n0 y bytes maxL ret rm as its Q') (hml : Ls.size = c.maxLocals) (argsL : List Value) (has : (Value.ref (n0 + i) :: argsL).toArray = as) (hstk : stk = argsL.reverse ++ .ref (n0 + i) :: rest) {ps : List FieldType} {r : Option FieldType} (pd : parseMethodDescriptor y.desc = some ⟨ps, r⟩) (hlen : argsL.length = ps.length)
    {W : Nat} (hW : 2 * 0 + (rest.map fun v => v.category).sum ≤ W) (hd : decode c.code pc = .ok (.invokevirtual index, 3)) (hf : rm.frames + 1 ≤ R.frames) (hl : W + (maxL + 11) + rm.locals ≤ R.locals) (hc : cells + rm.cells ≤ R.cells) (hs : slots + rm.slots ≤ R.slots)
    (k : ∀ (v : Option Value) (its' : List (Cell → Prop)) (T' : State), Q' v its' → own_at p l e R s m args below meth c n0 T' (cells + rm.cells) (slots + rm.slots) its' → own_go p e R s below n0 Q (T'.setTop (mkF m (pc + 3) Ls (v.toList ++ rest)))) :
    own_go p e R s below n0 Q (T.setTop (mkF m pc Ls stk)) := by
  obtain ⟨L, X, N, H⟩ := A
  subst hstk has
  obtain ⟨cl, g1, g2⟩ := H.2 i _ hi
  obtain ⟨cq, kq, q3a, q3b, q3c⟩ := isOf (T := T) hZ rfl (g2 _ _ g1).1
  obtain ⟨v, vm1, B, -, XB, hP, st⟩ := X.virtualBack hx (y := y) (z := y) hown (mvT hZ w1) (mvT hZ w2) (notFace_of_selects (args := #[]) (mvT hZ w3)) (mvT hZ w3) (mvT hZ w4) hy (backOf (W := W) (Q := fun v h L => Fr n0 L ∧ ∃ its', Q' v its' ∧ own_hp n0 h its') (M T.heap [] H) hZ w6 w5 hf hl) q3a q3c (g := mkF m pc Ls (argsL.reverse ++ .ref (n0 + i) :: rest)) rfl hml (Steps.refl _) (argsL := argsL) (rest := rest) (lenOf pd hlen) rfl hW hd (fun _ _ => ⟨rfl, rfl, hc, hs⟩)
  obtain ⟨its', q1, q2⟩ := own_post hP XB N
  exact own_tr st (k v its' B.U q1 q2)
theorem own_callP (A : own_at p l e R s m args below meth c n0 T cells slots its) (hx : p.tables.exec = Jvm.exec) (hZ : Z.Warmed39 s.vm) (hown : s.vm.findClass own = some m.cls) {index i : Nat} (w1 : (Cond.methodLink own index y).before a0 Z = true) (w2 : (Cond.privateMethod y).before a0 Z = true) {kk : Nat} (w3 : (Cond.instantiable y.cls kk).before a0 Z = true) (w4 : (Cond.instanceMethod y).before a0 Z = true) (w5 : (Cond.initialized y.cls).before a0 Z = true) (w6 : (Cond.code y bytes maxL ret).before a0 Z = true)
    (hy : y.cls ≠ "java/lang/invoke/MethodHandle" ∧ y.cls ≠ "java/lang/invoke/VarHandle") {ns : List (String × String)} {vs : List Value} (hi : its[i]? = some (own_obj Z y.cls ns vs)) (M : own_met l Z n0 y bytes maxL ret rm as its Q') (hml : Ls.size = c.maxLocals) (argsL : List Value) (has : (Value.ref (n0 + i) :: argsL).toArray = as) (hstk : stk = argsL.reverse ++ .ref (n0 + i) :: rest) {ps : List FieldType} {r : Option FieldType} (pd : parseMethodDescriptor y.desc = some ⟨ps, r⟩) (hlen : argsL.length = ps.length)
    {W : Nat} (hW : 2 * 0 + (rest.map fun v => v.category).sum ≤ W) (hd : decode c.code pc = .ok (.invokevirtual index, 3)) (hf : rm.frames + 1 ≤ R.frames) (hl : W + (maxL + 11) + rm.locals ≤ R.locals) (hc : cells + rm.cells ≤ R.cells) (hs : slots + rm.slots ≤ R.slots)
    (k : ∀ (v : Option Value) (its' : List (Cell → Prop)) (T' : State), Q' v its' → own_at p l e R s m args below meth c n0 T' (cells + rm.cells) (slots + rm.slots) its' → own_go p e R s below n0 Q (T'.setTop (mkF m (pc + 3) Ls (v.toList ++ rest)))) :
    own_go p e R s below n0 Q (T.setTop (mkF m pc Ls stk)) := by
  obtain ⟨L, X, N, H⟩ := A
  subst hstk has
  obtain ⟨cl, g1, g2⟩ := H.2 i _ hi
  obtain ⟨cq, q3a, q3b⟩ := (g2 _ _ g1).1.cell
  obtain ⟨c1, k1, i1, i2, -, i4, -⟩ := Cond.instantiable_spec (mvT (s := s) (args := args) hZ w3)
  have hpr : s.PrivateAt y := Cond.privateMethod_at (mvP hZ w2 (args := #[]))
  have hsel : (Cond.selects y.cls y y).before args s = true := selects_self_of_private i1 i2 (Bool.or_eq_false_iff.mp i4).1 hpr (mvT hZ w4) hy
  obtain ⟨v, vm1, B, -, XB, hP, st⟩ := X.privateBack hx (y := y) hown (mvT hZ w1) (mvT hZ w4) hsel hpr (mvT hZ w6) hy (backOf (W := W) (Q := fun v h L => Fr n0 L ∧ ∃ its', Q' v its' ∧ own_hp n0 h its') (M T.heap [] H) hZ w6 w5 hf hl) (g := mkF m pc Ls (argsL.reverse ++ .ref (n0 + i) :: rest)) rfl hml (Steps.refl _) (a := n0 + i) q3a q3b (argsL := argsL) (rest := rest) (lenOf pd hlen) rfl hW hd (fun _ _ => ⟨rfl, rfl, hc, hs⟩)
  obtain ⟨its', q1, q2⟩ := own_post hP XB N
  exact own_tr st (k v its' B.U q1 q2)
/-! comparisons of longs -/
theorem own_lc_lt {x y : Int64} (h : x < y) : lcmpW x y < 0 := by rw [lcW]; exact (lc_lt x y).mpr h
theorem own_lc_nlt {x y : Int64} (h : ¬ x < y) : ¬ lcmpW x y < 0 := by rw [lcW]; exact fun q => h ((lc_lt x y).mp q)
theorem own_lc_gt {x y : Int64} (h : y < x) : 0 < lcmpW x y := by rw [lcW]; exact (lc_gt x y).mpr h
theorem own_lc_ngt {x y : Int64} (h : ¬ y < x) : ¬ 0 < lcmpW x y := by rw [lcW]; exact fun q => h ((lc_gt x y).mp q)
theorem own_lc_eq {x y : Int64} (h : x = y) : lcmpW x y = 0 := by subst h; unfold lcmpW; simp
theorem own_lc_ne {x y : Int64} (h : ¬ x = y) : ¬ lcmpW x y = 0 := by
  unfold lcmpW
  (repeat' split) <;> first | decide | (exfalso; exact h (by assumption))
end Own
theorem d_prog_73_method_3_0 : decode prog_73_method_3_code 0 = .ok (.iload_n 0, 1) := by decide +kernel
theorem d_prog_73_method_3_1 : decode prog_73_method_3_code 1 = .ok (.bipush 32, 2) := by decide +kernel
theorem d_prog_73_method_3_3 : decode prog_73_method_3_code 3 = .ok (.if_icmp .lt 41, 3) := by decide +kernel
theorem d_prog_73_method_3_44 : decode prog_73_method_3_code 44 = .ok (.iload_n 0, 1) := by decide +kernel
theorem d_prog_73_method_3_45 : decode prog_73_method_3_code 45 = .ok (.bipush 9, 2) := by decide +kernel
theorem d_prog_73_method_3_47 : decode prog_73_method_3_code 47 = .ok (.if_icmp .eq 15, 3) := by decide +kernel
theorem d_prog_73_method_3_62 : decode prog_73_method_3_code 62 = .ok (.iconst 1, 1) := by decide +kernel
theorem d_prog_73_method_3_63 : decode prog_73_method_3_code 63 = .ok (.goto 4, 3) := by decide +kernel
theorem d_prog_73_method_3_67 : decode prog_73_method_3_code 67 = .ok (.ireturn, 1) := by decide +kernel
theorem d_prog_73_method_3_50 : decode prog_73_method_3_code 50 = .ok (.iload_n 0, 1) := by decide +kernel
theorem d_prog_73_method_3_51 : decode prog_73_method_3_code 51 = .ok (.bipush 10, 2) := by decide +kernel
theorem d_prog_73_method_3_53 : decode prog_73_method_3_code 53 = .ok (.if_icmp .eq 9, 3) := by decide +kernel
theorem d_prog_73_method_3_56 : decode prog_73_method_3_code 56 = .ok (.iload_n 0, 1) := by decide +kernel
theorem d_prog_73_method_3_57 : decode prog_73_method_3_code 57 = .ok (.bipush 13, 2) := by decide +kernel
theorem d_prog_73_method_3_59 : decode prog_73_method_3_code 59 = .ok (.if_icmp .ne 7, 3) := by decide +kernel
theorem d_prog_73_method_3_66 : decode prog_73_method_3_code 66 = .ok (.iconst 0, 1) := by decide +kernel
theorem d_prog_73_method_3_6 : decode prog_73_method_3_code 6 = .ok (.iload_n 0, 1) := by decide +kernel
theorem d_prog_73_method_3_7 : decode prog_73_method_3_code 7 = .ok (.ldc 35, 2) := by decide +kernel
theorem d_prog_73_method_3_9 : decode prog_73_method_3_code 9 = .ok (.if_icmp .le 27, 3) := by decide +kernel
theorem d_prog_73_method_3_12 : decode prog_73_method_3_code 12 = .ok (.iload_n 0, 1) := by decide +kernel
theorem d_prog_73_method_3_13 : decode prog_73_method_3_code 13 = .ok (.ldc 36, 2) := by decide +kernel
theorem d_prog_73_method_3_15 : decode prog_73_method_3_code 15 = .ok (.if_icmp .lt 25, 3) := by decide +kernel
theorem d_prog_73_method_3_40 : decode prog_73_method_3_code 40 = .ok (.iconst 0, 1) := by decide +kernel
theorem d_prog_73_method_3_41 : decode prog_73_method_3_code 41 = .ok (.goto 26, 3) := by decide +kernel
theorem d_prog_73_method_3_18 : decode prog_73_method_3_code 18 = .ok (.iload_n 0, 1) := by decide +kernel
theorem d_prog_73_method_3_19 : decode prog_73_method_3_code 19 = .ok (.ldc 37, 2) := by decide +kernel
theorem d_prog_73_method_3_21 : decode prog_73_method_3_code 21 = .ok (.if_icmp .gt 19, 3) := by decide +kernel
theorem d_prog_73_method_3_24 : decode prog_73_method_3_code 24 = .ok (.iload_n 0, 1) := by decide +kernel
theorem d_prog_73_method_3_25 : decode prog_73_method_3_code 25 = .ok (.ldc 38, 2) := by decide +kernel
theorem d_prog_73_method_3_27 : decode prog_73_method_3_code 27 = .ok (.if_icmp .eq 13, 3) := by decide +kernel
theorem d_prog_73_method_3_30 : decode prog_73_method_3_code 30 = .ok (.iload_n 0, 1) := by decide +kernel
theorem d_prog_73_method_3_31 : decode prog_73_method_3_code 31 = .ok (.ldc 39, 2) := by decide +kernel
theorem d_prog_73_method_3_33 : decode prog_73_method_3_code 33 = .ok (.if_icmp .eq 7, 3) := by decide +kernel
theorem d_prog_73_method_3_36 : decode prog_73_method_3_code 36 = .ok (.iconst 1, 1) := by decide +kernel
theorem d_prog_73_method_3_37 : decode prog_73_method_3_code 37 = .ok (.goto 30, 3) := by decide +kernel
def f1 (x1 : Int32) : Int32 := if x1 < (32 : Int32) then (if x1 = (9 : Int32) then (1 : Int32)
    else if x1 = (10 : Int32) then (1 : Int32)
    else if x1 = (13 : Int32) then (1 : Int32)
    else (0 : Int32))
  else if (55295 : Int32) < x1 then (if x1 < (57344 : Int32) then (0 : Int32)
    else if (1114111 : Int32) < x1 then (0 : Int32)
    else if x1 = (65534 : Int32) then (0 : Int32)
    else if x1 = (65535 : Int32) then (0 : Int32)
    else (1 : Int32))
  else (1 : Int32)
theorem pf_g1 : plainFor (⟨"com/example/oropendola/oropendola/format/Names", "isXmlChar", "(I)Z"⟩ : MethodName) = true := by first | exact plainFor_of_name (by first | (simp [plainName, overriddenIn]; done) | decide +kernel) | decide +kernel
theorem ef_g1 (m : MethodId) (x1 : Int32) : entryFrame m #[(.int x1)] 1 = (mkF m 0 #[.val (.int x1)] []) := by first | (simp [entryFrame, mkF, argsToLocals, Value.category]; done) | rfl
set_option maxRecDepth 65536 in
set_option maxHeartbeats 40000000 in
theorem g1 (l : Launch) (Z : State) (a0 : Array Value) (hw : ∀ d ∈ tables_1, d.before a0 Z = true) (n0 : Nat) (its : List (Cell → Prop)) (x1 : Int32)  :
    own_met l Z n0 (⟨"com/example/oropendola/oropendola/format/Names", "isXmlChar", "(I)Z"⟩ : MethodName) prog_73_method_3_code 1 (some .boolean) ({ frames := 0, cells := 0, slots := 0, locals := 0 } : Room) #[(.int x1)] its (fun v its' => v = some (.int (f1 x1)) ∧ its' = its) := by
  refine own_met.of pf_g1 ?_
  intro p e s m below meth c T0 hx hby hml hret hlk hZ hown hnm A0
  replace hown : s.vm.findClass "com/example/oropendola/oropendola/format/Names" = some m.cls := hown
  replace hml : c.maxLocals = 1 := hml
  rw [ef_g1 m x1]
  show own_go _ _ _ _ _ _ _ (T0.setTop (mkF m 0 #[.val (.int x1)] []))
  refine own_by (u' := T0.setTop (mkF m 1 #[.val (.int x1)] [(.int x1)])) (fun _ k => XS.iloadN A0.here hx rfl (own_db hby d_prog_73_method_3_0) rfl k) ?_
  refine own_by (u' := T0.setTop (mkF m 3 #[.val (.int x1)] [(.int (32 : Int32)), (.int x1)])) (fun _ k => XS.bipush A0.here hx rfl (own_db hby d_prog_73_method_3_1) k) ?_
  by_cases hc1 : x1 < (32 : Int32)
  · refine own_by (u' := T0.setTop (mkF m 44 #[.val (.int x1)] [])) (fun _ k => XS.icmpYes A0.here hx rfl (pc0 := 3) (pc' := 44) rfl (own_db hby d_prog_73_method_3_3) rfl (tlt hc1).1 (by decide) (by decide) k) ?_
    refine own_by (u' := T0.setTop (mkF m 45 #[.val (.int x1)] [(.int x1)])) (fun _ k => XS.iloadN A0.here hx rfl (own_db hby d_prog_73_method_3_44) rfl k) ?_
    refine own_by (u' := T0.setTop (mkF m 47 #[.val (.int x1)] [(.int (9 : Int32)), (.int x1)])) (fun _ k => XS.bipush A0.here hx rfl (own_db hby d_prog_73_method_3_45) k) ?_
    by_cases hc2 : x1 = (9 : Int32)
    · refine own_by (u' := T0.setTop (mkF m 62 #[.val (.int x1)] [])) (fun _ k => XS.icmpYes A0.here hx rfl (pc0 := 47) (pc' := 62) rfl (own_db hby d_prog_73_method_3_47) rfl (teq hc2).1 (by decide) (by decide) k) ?_
      refine own_by (u' := T0.setTop (mkF m 63 #[.val (.int x1)] [(.int (1 : Int32))])) (fun _ k => XS.iconst A0.here hx rfl (own_db hby d_prog_73_method_3_62) k) ?_
      refine own_by (u' := T0.setTop (mkF m 67 #[.val (.int x1)] [(.int (1 : Int32))])) (fun _ k => XS.goto A0.here hx rfl (pc0 := 63) (pc' := 67) rfl (own_db hby d_prog_73_method_3_63) (by decide) (by decide) k) ?_
      exact own_retN A0 hx hlk (t := .boolean) (by simp) hret (own_db hby d_prog_73_method_3_67) (by decide) (by decide) ⟨by rw [show f1 x1 = (1 : Int32) from by unfold f1; simp only [if_pos hc1, if_pos hc2]] <;> rfl, rfl⟩
    · refine own_by (u' := T0.setTop (mkF m 50 #[.val (.int x1)] [])) (fun _ k => XS.icmpNo A0.here hx rfl (own_db hby d_prog_73_method_3_47) rfl (feq hc2).1 k) ?_
      refine own_by (u' := T0.setTop (mkF m 51 #[.val (.int x1)] [(.int x1)])) (fun _ k => XS.iloadN A0.here hx rfl (own_db hby d_prog_73_method_3_50) rfl k) ?_
      refine own_by (u' := T0.setTop (mkF m 53 #[.val (.int x1)] [(.int (10 : Int32)), (.int x1)])) (fun _ k => XS.bipush A0.here hx rfl (own_db hby d_prog_73_method_3_51) k) ?_
      by_cases hc3 : x1 = (10 : Int32)
      · refine own_by (u' := T0.setTop (mkF m 62 #[.val (.int x1)] [])) (fun _ k => XS.icmpYes A0.here hx rfl (pc0 := 53) (pc' := 62) rfl (own_db hby d_prog_73_method_3_53) rfl (teq hc3).1 (by decide) (by decide) k) ?_
        refine own_by (u' := T0.setTop (mkF m 63 #[.val (.int x1)] [(.int (1 : Int32))])) (fun _ k => XS.iconst A0.here hx rfl (own_db hby d_prog_73_method_3_62) k) ?_
        refine own_by (u' := T0.setTop (mkF m 67 #[.val (.int x1)] [(.int (1 : Int32))])) (fun _ k => XS.goto A0.here hx rfl (pc0 := 63) (pc' := 67) rfl (own_db hby d_prog_73_method_3_63) (by decide) (by decide) k) ?_
        exact own_retN A0 hx hlk (t := .boolean) (by simp) hret (own_db hby d_prog_73_method_3_67) (by decide) (by decide) ⟨by rw [show f1 x1 = (1 : Int32) from by unfold f1; simp only [if_pos hc1, if_neg hc2, if_pos hc3]] <;> rfl, rfl⟩
      · refine own_by (u' := T0.setTop (mkF m 56 #[.val (.int x1)] [])) (fun _ k => XS.icmpNo A0.here hx rfl (own_db hby d_prog_73_method_3_53) rfl (feq hc3).1 k) ?_
        refine own_by (u' := T0.setTop (mkF m 57 #[.val (.int x1)] [(.int x1)])) (fun _ k => XS.iloadN A0.here hx rfl (own_db hby d_prog_73_method_3_56) rfl k) ?_
        refine own_by (u' := T0.setTop (mkF m 59 #[.val (.int x1)] [(.int (13 : Int32)), (.int x1)])) (fun _ k => XS.bipush A0.here hx rfl (own_db hby d_prog_73_method_3_57) k) ?_
        by_cases hc4 : x1 = (13 : Int32)
        · refine own_by (u' := T0.setTop (mkF m 62 #[.val (.int x1)] [])) (fun _ k => XS.icmpNo A0.here hx rfl (own_db hby d_prog_73_method_3_59) rfl (teq hc4).2 k) ?_
          refine own_by (u' := T0.setTop (mkF m 63 #[.val (.int x1)] [(.int (1 : Int32))])) (fun _ k => XS.iconst A0.here hx rfl (own_db hby d_prog_73_method_3_62) k) ?_
          refine own_by (u' := T0.setTop (mkF m 67 #[.val (.int x1)] [(.int (1 : Int32))])) (fun _ k => XS.goto A0.here hx rfl (pc0 := 63) (pc' := 67) rfl (own_db hby d_prog_73_method_3_63) (by decide) (by decide) k) ?_
          exact own_retN A0 hx hlk (t := .boolean) (by simp) hret (own_db hby d_prog_73_method_3_67) (by decide) (by decide) ⟨by rw [show f1 x1 = (1 : Int32) from by unfold f1; simp only [if_pos hc1, if_neg hc2, if_neg hc3, if_pos hc4]] <;> rfl, rfl⟩
        · refine own_by (u' := T0.setTop (mkF m 66 #[.val (.int x1)] [])) (fun _ k => XS.icmpYes A0.here hx rfl (pc0 := 59) (pc' := 66) rfl (own_db hby d_prog_73_method_3_59) rfl (feq hc4).2 (by decide) (by decide) k) ?_
          refine own_by (u' := T0.setTop (mkF m 67 #[.val (.int x1)] [(.int (0 : Int32))])) (fun _ k => XS.iconst A0.here hx rfl (own_db hby d_prog_73_method_3_66) k) ?_
          exact own_retN A0 hx hlk (t := .boolean) (by simp) hret (own_db hby d_prog_73_method_3_67) (by decide) (by decide) ⟨by rw [show f1 x1 = (0 : Int32) from by unfold f1; simp only [if_pos hc1, if_neg hc2, if_neg hc3, if_neg hc4]] <;> rfl, rfl⟩
  · refine own_by (u' := T0.setTop (mkF m 6 #[.val (.int x1)] [])) (fun _ k => XS.icmpNo A0.here hx rfl (own_db hby d_prog_73_method_3_3) rfl (flt hc1).1 k) ?_
    refine own_by (u' := T0.setTop (mkF m 7 #[.val (.int x1)] [(.int x1)])) (fun _ k => XS.iloadN A0.here hx rfl (own_db hby d_prog_73_method_3_6) rfl k) ?_
    refine own_ldcI A0 hx hZ hown (hw _ (List.mem_of_getElem? (i := 19) rfl)) (own_db hby d_prog_73_method_3_7) ?_
    show own_go _ _ _ _ _ _ _ (T0.setTop (mkF m 9 #[.val (.int x1)] [(.int (55295 : Int32)), (.int x1)]))
    by_cases hc5 : (55295 : Int32) < x1
    · refine own_by (u' := T0.setTop (mkF m 12 #[.val (.int x1)] [])) (fun _ k => XS.icmpNo A0.here hx rfl (own_db hby d_prog_73_method_3_9) rfl (tlt hc5).2.2.2 k) ?_
      refine own_by (u' := T0.setTop (mkF m 13 #[.val (.int x1)] [(.int x1)])) (fun _ k => XS.iloadN A0.here hx rfl (own_db hby d_prog_73_method_3_12) rfl k) ?_
      refine own_ldcI A0 hx hZ hown (hw _ (List.mem_of_getElem? (i := 20) rfl)) (own_db hby d_prog_73_method_3_13) ?_
      show own_go _ _ _ _ _ _ _ (T0.setTop (mkF m 15 #[.val (.int x1)] [(.int (57344 : Int32)), (.int x1)]))
      by_cases hc6 : x1 < (57344 : Int32)
      · refine own_by (u' := T0.setTop (mkF m 40 #[.val (.int x1)] [])) (fun _ k => XS.icmpYes A0.here hx rfl (pc0 := 15) (pc' := 40) rfl (own_db hby d_prog_73_method_3_15) rfl (tlt hc6).1 (by decide) (by decide) k) ?_
        refine own_by (u' := T0.setTop (mkF m 41 #[.val (.int x1)] [(.int (0 : Int32))])) (fun _ k => XS.iconst A0.here hx rfl (own_db hby d_prog_73_method_3_40) k) ?_
        refine own_by (u' := T0.setTop (mkF m 67 #[.val (.int x1)] [(.int (0 : Int32))])) (fun _ k => XS.goto A0.here hx rfl (pc0 := 41) (pc' := 67) rfl (own_db hby d_prog_73_method_3_41) (by decide) (by decide) k) ?_
        exact own_retN A0 hx hlk (t := .boolean) (by simp) hret (own_db hby d_prog_73_method_3_67) (by decide) (by decide) ⟨by rw [show f1 x1 = (0 : Int32) from by unfold f1; simp only [if_neg hc1, if_pos hc5, if_pos hc6]] <;> rfl, rfl⟩
      · refine own_by (u' := T0.setTop (mkF m 18 #[.val (.int x1)] [])) (fun _ k => XS.icmpNo A0.here hx rfl (own_db hby d_prog_73_method_3_15) rfl (flt hc6).1 k) ?_
        refine own_by (u' := T0.setTop (mkF m 19 #[.val (.int x1)] [(.int x1)])) (fun _ k => XS.iloadN A0.here hx rfl (own_db hby d_prog_73_method_3_18) rfl k) ?_
        refine own_ldcI A0 hx hZ hown (hw _ (List.mem_of_getElem? (i := 21) rfl)) (own_db hby d_prog_73_method_3_19) ?_
        show own_go _ _ _ _ _ _ _ (T0.setTop (mkF m 21 #[.val (.int x1)] [(.int (1114111 : Int32)), (.int x1)]))
        by_cases hc7 : (1114111 : Int32) < x1
        · refine own_by (u' := T0.setTop (mkF m 40 #[.val (.int x1)] [])) (fun _ k => XS.icmpYes A0.here hx rfl (pc0 := 21) (pc' := 40) rfl (own_db hby d_prog_73_method_3_21) rfl (tlt hc7).2.2.1 (by decide) (by decide) k) ?_
          refine own_by (u' := T0.setTop (mkF m 41 #[.val (.int x1)] [(.int (0 : Int32))])) (fun _ k => XS.iconst A0.here hx rfl (own_db hby d_prog_73_method_3_40) k) ?_
          refine own_by (u' := T0.setTop (mkF m 67 #[.val (.int x1)] [(.int (0 : Int32))])) (fun _ k => XS.goto A0.here hx rfl (pc0 := 41) (pc' := 67) rfl (own_db hby d_prog_73_method_3_41) (by decide) (by decide) k) ?_
          exact own_retN A0 hx hlk (t := .boolean) (by simp) hret (own_db hby d_prog_73_method_3_67) (by decide) (by decide) ⟨by rw [show f1 x1 = (0 : Int32) from by unfold f1; simp only [if_neg hc1, if_pos hc5, if_neg hc6, if_pos hc7]] <;> rfl, rfl⟩
        · refine own_by (u' := T0.setTop (mkF m 24 #[.val (.int x1)] [])) (fun _ k => XS.icmpNo A0.here hx rfl (own_db hby d_prog_73_method_3_21) rfl (flt hc7).2.2.1 k) ?_
          refine own_by (u' := T0.setTop (mkF m 25 #[.val (.int x1)] [(.int x1)])) (fun _ k => XS.iloadN A0.here hx rfl (own_db hby d_prog_73_method_3_24) rfl k) ?_
          refine own_ldcI A0 hx hZ hown (hw _ (List.mem_of_getElem? (i := 22) rfl)) (own_db hby d_prog_73_method_3_25) ?_
          show own_go _ _ _ _ _ _ _ (T0.setTop (mkF m 27 #[.val (.int x1)] [(.int (65534 : Int32)), (.int x1)]))
          by_cases hc8 : x1 = (65534 : Int32)
          · refine own_by (u' := T0.setTop (mkF m 40 #[.val (.int x1)] [])) (fun _ k => XS.icmpYes A0.here hx rfl (pc0 := 27) (pc' := 40) rfl (own_db hby d_prog_73_method_3_27) rfl (teq hc8).1 (by decide) (by decide) k) ?_
            refine own_by (u' := T0.setTop (mkF m 41 #[.val (.int x1)] [(.int (0 : Int32))])) (fun _ k => XS.iconst A0.here hx rfl (own_db hby d_prog_73_method_3_40) k) ?_
            refine own_by (u' := T0.setTop (mkF m 67 #[.val (.int x1)] [(.int (0 : Int32))])) (fun _ k => XS.goto A0.here hx rfl (pc0 := 41) (pc' := 67) rfl (own_db hby d_prog_73_method_3_41) (by decide) (by decide) k) ?_
            exact own_retN A0 hx hlk (t := .boolean) (by simp) hret (own_db hby d_prog_73_method_3_67) (by decide) (by decide) ⟨by rw [show f1 x1 = (0 : Int32) from by unfold f1; simp only [if_neg hc1, if_pos hc5, if_neg hc6, if_neg hc7, if_pos hc8]] <;> rfl, rfl⟩
          · refine own_by (u' := T0.setTop (mkF m 30 #[.val (.int x1)] [])) (fun _ k => XS.icmpNo A0.here hx rfl (own_db hby d_prog_73_method_3_27) rfl (feq hc8).1 k) ?_
            refine own_by (u' := T0.setTop (mkF m 31 #[.val (.int x1)] [(.int x1)])) (fun _ k => XS.iloadN A0.here hx rfl (own_db hby d_prog_73_method_3_30) rfl k) ?_
            refine own_ldcI A0 hx hZ hown (hw _ (List.mem_of_getElem? (i := 23) rfl)) (own_db hby d_prog_73_method_3_31) ?_
            show own_go _ _ _ _ _ _ _ (T0.setTop (mkF m 33 #[.val (.int x1)] [(.int (65535 : Int32)), (.int x1)]))
            by_cases hc9 : x1 = (65535 : Int32)
            · refine own_by (u' := T0.setTop (mkF m 40 #[.val (.int x1)] [])) (fun _ k => XS.icmpYes A0.here hx rfl (pc0 := 33) (pc' := 40) rfl (own_db hby d_prog_73_method_3_33) rfl (teq hc9).1 (by decide) (by decide) k) ?_
              refine own_by (u' := T0.setTop (mkF m 41 #[.val (.int x1)] [(.int (0 : Int32))])) (fun _ k => XS.iconst A0.here hx rfl (own_db hby d_prog_73_method_3_40) k) ?_
              refine own_by (u' := T0.setTop (mkF m 67 #[.val (.int x1)] [(.int (0 : Int32))])) (fun _ k => XS.goto A0.here hx rfl (pc0 := 41) (pc' := 67) rfl (own_db hby d_prog_73_method_3_41) (by decide) (by decide) k) ?_
              exact own_retN A0 hx hlk (t := .boolean) (by simp) hret (own_db hby d_prog_73_method_3_67) (by decide) (by decide) ⟨by rw [show f1 x1 = (0 : Int32) from by unfold f1; simp only [if_neg hc1, if_pos hc5, if_neg hc6, if_neg hc7, if_neg hc8, if_pos hc9]] <;> rfl, rfl⟩
            · refine own_by (u' := T0.setTop (mkF m 36 #[.val (.int x1)] [])) (fun _ k => XS.icmpNo A0.here hx rfl (own_db hby d_prog_73_method_3_33) rfl (feq hc9).1 k) ?_
              refine own_by (u' := T0.setTop (mkF m 37 #[.val (.int x1)] [(.int (1 : Int32))])) (fun _ k => XS.iconst A0.here hx rfl (own_db hby d_prog_73_method_3_36) k) ?_
              refine own_by (u' := T0.setTop (mkF m 67 #[.val (.int x1)] [(.int (1 : Int32))])) (fun _ k => XS.goto A0.here hx rfl (pc0 := 37) (pc' := 67) rfl (own_db hby d_prog_73_method_3_37) (by decide) (by decide) k) ?_
              exact own_retN A0 hx hlk (t := .boolean) (by simp) hret (own_db hby d_prog_73_method_3_67) (by decide) (by decide) ⟨by rw [show f1 x1 = (1 : Int32) from by unfold f1; simp only [if_neg hc1, if_pos hc5, if_neg hc6, if_neg hc7, if_neg hc8, if_neg hc9]] <;> rfl, rfl⟩
    · refine own_by (u' := T0.setTop (mkF m 36 #[.val (.int x1)] [])) (fun _ k => XS.icmpYes A0.here hx rfl (pc0 := 9) (pc' := 36) rfl (own_db hby d_prog_73_method_3_9) rfl (flt hc5).2.2.2 (by decide) (by decide) k) ?_
      refine own_by (u' := T0.setTop (mkF m 37 #[.val (.int x1)] [(.int (1 : Int32))])) (fun _ k => XS.iconst A0.here hx rfl (own_db hby d_prog_73_method_3_36) k) ?_
      refine own_by (u' := T0.setTop (mkF m 67 #[.val (.int x1)] [(.int (1 : Int32))])) (fun _ k => XS.goto A0.here hx rfl (pc0 := 37) (pc' := 67) rfl (own_db hby d_prog_73_method_3_37) (by decide) (by decide) k) ?_
      exact own_retN A0 hx hlk (t := .boolean) (by simp) hret (own_db hby d_prog_73_method_3_67) (by decide) (by decide) ⟨by rw [show f1 x1 = (1 : Int32) from by unfold f1; simp only [if_neg hc1, if_neg hc5]] <;> rfl, rfl⟩
theorem d_method_2_0 : decode method_2_code 0 = .ok (.iload_n 0, 1) := by decide +kernel
theorem d_method_2_1 : decode method_2_code 1 = .ok (.bipush 9, 2) := by decide +kernel
theorem d_method_2_3 : decode method_2_code 3 = .ok (.if_icmp .eq 15, 3) := by decide +kernel
theorem d_method_2_18 : decode method_2_code 18 = .ok (.iconst 1, 1) := by decide +kernel
theorem d_method_2_19 : decode method_2_code 19 = .ok (.ireturn, 1) := by decide +kernel
theorem d_method_2_6 : decode method_2_code 6 = .ok (.iload_n 0, 1) := by decide +kernel
theorem d_method_2_7 : decode method_2_code 7 = .ok (.bipush 10, 2) := by decide +kernel
theorem d_method_2_9 : decode method_2_code 9 = .ok (.if_icmp .eq 9, 3) := by decide +kernel
theorem d_method_2_12 : decode method_2_code 12 = .ok (.iload_n 0, 1) := by decide +kernel
theorem d_method_2_13 : decode method_2_code 13 = .ok (.bipush 13, 2) := by decide +kernel
theorem d_method_2_15 : decode method_2_code 15 = .ok (.if_icmp .ne 5, 3) := by decide +kernel
theorem d_method_2_20 : decode method_2_code 20 = .ok (.iload_n 0, 1) := by decide +kernel
theorem d_method_2_21 : decode method_2_code 21 = .ok (.bipush 32, 2) := by decide +kernel
theorem d_method_2_23 : decode method_2_code 23 = .ok (.if_icmp .lt 11, 3) := by decide +kernel
theorem d_method_2_34 : decode method_2_code 34 = .ok (.iload_n 0, 1) := by decide +kernel
theorem d_method_2_35 : decode method_2_code 35 = .ok (.ldc 8, 2) := by decide +kernel
theorem d_method_2_37 : decode method_2_code 37 = .ok (.if_icmp .lt 11, 3) := by decide +kernel
theorem d_method_2_48 : decode method_2_code 48 = .ok (.iload_n 0, 1) := by decide +kernel
theorem d_method_2_49 : decode method_2_code 49 = .ok (.ldc 10, 2) := by decide +kernel
theorem d_method_2_51 : decode method_2_code 51 = .ok (.if_icmp .lt 13, 3) := by decide +kernel
theorem d_method_2_64 : decode method_2_code 64 = .ok (.iconst 0, 1) := by decide +kernel
theorem d_method_2_65 : decode method_2_code 65 = .ok (.ireturn, 1) := by decide +kernel
theorem d_method_2_54 : decode method_2_code 54 = .ok (.iload_n 0, 1) := by decide +kernel
theorem d_method_2_55 : decode method_2_code 55 = .ok (.ldc 11, 2) := by decide +kernel
theorem d_method_2_57 : decode method_2_code 57 = .ok (.if_icmp .gt 7, 3) := by decide +kernel
theorem d_method_2_60 : decode method_2_code 60 = .ok (.iconst 1, 1) := by decide +kernel
theorem d_method_2_61 : decode method_2_code 61 = .ok (.goto 4, 3) := by decide +kernel
theorem d_method_2_40 : decode method_2_code 40 = .ok (.iload_n 0, 1) := by decide +kernel
theorem d_method_2_41 : decode method_2_code 41 = .ok (.ldc 9, 2) := by decide +kernel
theorem d_method_2_43 : decode method_2_code 43 = .ok (.if_icmp .gt 5, 3) := by decide +kernel
theorem d_method_2_46 : decode method_2_code 46 = .ok (.iconst 1, 1) := by decide +kernel
theorem d_method_2_47 : decode method_2_code 47 = .ok (.ireturn, 1) := by decide +kernel
theorem d_method_2_26 : decode method_2_code 26 = .ok (.iload_n 0, 1) := by decide +kernel
theorem d_method_2_27 : decode method_2_code 27 = .ok (.ldc 7, 2) := by decide +kernel
theorem d_method_2_29 : decode method_2_code 29 = .ok (.if_icmp .gt 5, 3) := by decide +kernel
theorem d_method_2_32 : decode method_2_code 32 = .ok (.iconst 1, 1) := by decide +kernel
theorem d_method_2_33 : decode method_2_code 33 = .ok (.ireturn, 1) := by decide +kernel
def f2 (x1 : Int32) : Int32 := if x1 = (9 : Int32) then (1 : Int32)
  else if x1 = (10 : Int32) then (1 : Int32)
  else if x1 = (13 : Int32) then (1 : Int32)
  else if x1 < (32 : Int32) then (if x1 < (57344 : Int32) then (if x1 < (65536 : Int32) then (0 : Int32)
      else if (1114111 : Int32) < x1 then (0 : Int32)
      else (1 : Int32))
    else if (65533 : Int32) < x1 then (if x1 < (65536 : Int32) then (0 : Int32)
      else if (1114111 : Int32) < x1 then (0 : Int32)
      else (1 : Int32))
    else (1 : Int32))
  else if (55295 : Int32) < x1 then (if x1 < (57344 : Int32) then (if x1 < (65536 : Int32) then (0 : Int32)
      else if (1114111 : Int32) < x1 then (0 : Int32)
      else (1 : Int32))
    else if (65533 : Int32) < x1 then (if x1 < (65536 : Int32) then (0 : Int32)
      else if (1114111 : Int32) < x1 then (0 : Int32)
      else (1 : Int32))
    else (1 : Int32))
  else (1 : Int32)
theorem pf_g2 : plainFor (⟨"com/example/oropendola/oropendola/format/NamesIsXmlCharPinLaw", "reference", "(I)Z"⟩ : MethodName) = true := by first | exact plainFor_of_name (by first | (simp [plainName, overriddenIn]; done) | decide +kernel) | decide +kernel
theorem ef_g2 (m : MethodId) (x1 : Int32) : entryFrame m #[(.int x1)] 1 = (mkF m 0 #[.val (.int x1)] []) := by first | (simp [entryFrame, mkF, argsToLocals, Value.category]; done) | rfl
set_option maxRecDepth 65536 in
set_option maxHeartbeats 40000000 in
theorem g2 (l : Launch) (Z : State) (a0 : Array Value) (hw : ∀ d ∈ tables_1, d.before a0 Z = true) (n0 : Nat) (its : List (Cell → Prop)) (x1 : Int32)  :
    own_met l Z n0 (⟨"com/example/oropendola/oropendola/format/NamesIsXmlCharPinLaw", "reference", "(I)Z"⟩ : MethodName) method_2_code 1 (some .boolean) ({ frames := 0, cells := 0, slots := 0, locals := 0 } : Room) #[(.int x1)] its (fun v its' => v = some (.int (f2 x1)) ∧ its' = its) := by
  refine own_met.of pf_g2 ?_
  intro p e s m below meth c T0 hx hby hml hret hlk hZ hown hnm A0
  replace hown : s.vm.findClass "com/example/oropendola/oropendola/format/NamesIsXmlCharPinLaw" = some m.cls := hown
  replace hml : c.maxLocals = 1 := hml
  rw [ef_g2 m x1]
  show own_go _ _ _ _ _ _ _ (T0.setTop (mkF m 0 #[.val (.int x1)] []))
  refine own_by (u' := T0.setTop (mkF m 1 #[.val (.int x1)] [(.int x1)])) (fun _ k => XS.iloadN A0.here hx rfl (own_db hby d_method_2_0) rfl k) ?_
  refine own_by (u' := T0.setTop (mkF m 3 #[.val (.int x1)] [(.int (9 : Int32)), (.int x1)])) (fun _ k => XS.bipush A0.here hx rfl (own_db hby d_method_2_1) k) ?_
  by_cases hc1 : x1 = (9 : Int32)
  · refine own_by (u' := T0.setTop (mkF m 18 #[.val (.int x1)] [])) (fun _ k => XS.icmpYes A0.here hx rfl (pc0 := 3) (pc' := 18) rfl (own_db hby d_method_2_3) rfl (teq hc1).1 (by decide) (by decide) k) ?_
    refine own_by (u' := T0.setTop (mkF m 19 #[.val (.int x1)] [(.int (1 : Int32))])) (fun _ k => XS.iconst A0.here hx rfl (own_db hby d_method_2_18) k) ?_
    exact own_retN A0 hx hlk (t := .boolean) (by simp) hret (own_db hby d_method_2_19) (by decide) (by decide) ⟨by rw [show f2 x1 = (1 : Int32) from by unfold f2; simp only [if_pos hc1]] <;> rfl, rfl⟩
  · refine own_by (u' := T0.setTop (mkF m 6 #[.val (.int x1)] [])) (fun _ k => XS.icmpNo A0.here hx rfl (own_db hby d_method_2_3) rfl (feq hc1).1 k) ?_
    refine own_by (u' := T0.setTop (mkF m 7 #[.val (.int x1)] [(.int x1)])) (fun _ k => XS.iloadN A0.here hx rfl (own_db hby d_method_2_6) rfl k) ?_
    refine own_by (u' := T0.setTop (mkF m 9 #[.val (.int x1)] [(.int (10 : Int32)), (.int x1)])) (fun _ k => XS.bipush A0.here hx rfl (own_db hby d_method_2_7) k) ?_
    by_cases hc2 : x1 = (10 : Int32)
    · refine own_by (u' := T0.setTop (mkF m 18 #[.val (.int x1)] [])) (fun _ k => XS.icmpYes A0.here hx rfl (pc0 := 9) (pc' := 18) rfl (own_db hby d_method_2_9) rfl (teq hc2).1 (by decide) (by decide) k) ?_
      refine own_by (u' := T0.setTop (mkF m 19 #[.val (.int x1)] [(.int (1 : Int32))])) (fun _ k => XS.iconst A0.here hx rfl (own_db hby d_method_2_18) k) ?_
      exact own_retN A0 hx hlk (t := .boolean) (by simp) hret (own_db hby d_method_2_19) (by decide) (by decide) ⟨by rw [show f2 x1 = (1 : Int32) from by unfold f2; simp only [if_neg hc1, if_pos hc2]] <;> rfl, rfl⟩
    · refine own_by (u' := T0.setTop (mkF m 12 #[.val (.int x1)] [])) (fun _ k => XS.icmpNo A0.here hx rfl (own_db hby d_method_2_9) rfl (feq hc2).1 k) ?_
      refine own_by (u' := T0.setTop (mkF m 13 #[.val (.int x1)] [(.int x1)])) (fun _ k => XS.iloadN A0.here hx rfl (own_db hby d_method_2_12) rfl k) ?_
      refine own_by (u' := T0.setTop (mkF m 15 #[.val (.int x1)] [(.int (13 : Int32)), (.int x1)])) (fun _ k => XS.bipush A0.here hx rfl (own_db hby d_method_2_13) k) ?_
      by_cases hc3 : x1 = (13 : Int32)
      · refine own_by (u' := T0.setTop (mkF m 18 #[.val (.int x1)] [])) (fun _ k => XS.icmpNo A0.here hx rfl (own_db hby d_method_2_15) rfl (teq hc3).2 k) ?_
        refine own_by (u' := T0.setTop (mkF m 19 #[.val (.int x1)] [(.int (1 : Int32))])) (fun _ k => XS.iconst A0.here hx rfl (own_db hby d_method_2_18) k) ?_
        exact own_retN A0 hx hlk (t := .boolean) (by simp) hret (own_db hby d_method_2_19) (by decide) (by decide) ⟨by rw [show f2 x1 = (1 : Int32) from by unfold f2; simp only [if_neg hc1, if_neg hc2, if_pos hc3]] <;> rfl, rfl⟩
      · refine own_by (u' := T0.setTop (mkF m 20 #[.val (.int x1)] [])) (fun _ k => XS.icmpYes A0.here hx rfl (pc0 := 15) (pc' := 20) rfl (own_db hby d_method_2_15) rfl (feq hc3).2 (by decide) (by decide) k) ?_
        refine own_by (u' := T0.setTop (mkF m 21 #[.val (.int x1)] [(.int x1)])) (fun _ k => XS.iloadN A0.here hx rfl (own_db hby d_method_2_20) rfl k) ?_
        refine own_by (u' := T0.setTop (mkF m 23 #[.val (.int x1)] [(.int (32 : Int32)), (.int x1)])) (fun _ k => XS.bipush A0.here hx rfl (own_db hby d_method_2_21) k) ?_
        by_cases hc4 : x1 < (32 : Int32)
        · refine own_by (u' := T0.setTop (mkF m 34 #[.val (.int x1)] [])) (fun _ k => XS.icmpYes A0.here hx rfl (pc0 := 23) (pc' := 34) rfl (own_db hby d_method_2_23) rfl (tlt hc4).1 (by decide) (by decide) k) ?_
          refine own_by (u' := T0.setTop (mkF m 35 #[.val (.int x1)] [(.int x1)])) (fun _ k => XS.iloadN A0.here hx rfl (own_db hby d_method_2_34) rfl k) ?_
          refine own_ldcI A0 hx hZ hown (hw _ (List.mem_of_getElem? (i := 2) rfl)) (own_db hby d_method_2_35) ?_
          show own_go _ _ _ _ _ _ _ (T0.setTop (mkF m 37 #[.val (.int x1)] [(.int (57344 : Int32)), (.int x1)]))
          by_cases hc5 : x1 < (57344 : Int32)
          · refine own_by (u' := T0.setTop (mkF m 48 #[.val (.int x1)] [])) (fun _ k => XS.icmpYes A0.here hx rfl (pc0 := 37) (pc' := 48) rfl (own_db hby d_method_2_37) rfl (tlt hc5).1 (by decide) (by decide) k) ?_
            refine own_by (u' := T0.setTop (mkF m 49 #[.val (.int x1)] [(.int x1)])) (fun _ k => XS.iloadN A0.here hx rfl (own_db hby d_method_2_48) rfl k) ?_
            refine own_ldcI A0 hx hZ hown (hw _ (List.mem_of_getElem? (i := 6) rfl)) (own_db hby d_method_2_49) ?_
            show own_go _ _ _ _ _ _ _ (T0.setTop (mkF m 51 #[.val (.int x1)] [(.int (65536 : Int32)), (.int x1)]))
            by_cases hc6 : x1 < (65536 : Int32)
            · refine own_by (u' := T0.setTop (mkF m 64 #[.val (.int x1)] [])) (fun _ k => XS.icmpYes A0.here hx rfl (pc0 := 51) (pc' := 64) rfl (own_db hby d_method_2_51) rfl (tlt hc6).1 (by decide) (by decide) k) ?_
              refine own_by (u' := T0.setTop (mkF m 65 #[.val (.int x1)] [(.int (0 : Int32))])) (fun _ k => XS.iconst A0.here hx rfl (own_db hby d_method_2_64) k) ?_
              exact own_retN A0 hx hlk (t := .boolean) (by simp) hret (own_db hby d_method_2_65) (by decide) (by decide) ⟨by rw [show f2 x1 = (0 : Int32) from by unfold f2; simp only [if_neg hc1, if_neg hc2, if_neg hc3, if_pos hc4, if_pos hc5, if_pos hc6]] <;> rfl, rfl⟩
            · refine own_by (u' := T0.setTop (mkF m 54 #[.val (.int x1)] [])) (fun _ k => XS.icmpNo A0.here hx rfl (own_db hby d_method_2_51) rfl (flt hc6).1 k) ?_
              refine own_by (u' := T0.setTop (mkF m 55 #[.val (.int x1)] [(.int x1)])) (fun _ k => XS.iloadN A0.here hx rfl (own_db hby d_method_2_54) rfl k) ?_
              refine own_ldcI A0 hx hZ hown (hw _ (List.mem_of_getElem? (i := 7) rfl)) (own_db hby d_method_2_55) ?_
              show own_go _ _ _ _ _ _ _ (T0.setTop (mkF m 57 #[.val (.int x1)] [(.int (1114111 : Int32)), (.int x1)]))
              by_cases hc7 : (1114111 : Int32) < x1
              · refine own_by (u' := T0.setTop (mkF m 64 #[.val (.int x1)] [])) (fun _ k => XS.icmpYes A0.here hx rfl (pc0 := 57) (pc' := 64) rfl (own_db hby d_method_2_57) rfl (tlt hc7).2.2.1 (by decide) (by decide) k) ?_
                refine own_by (u' := T0.setTop (mkF m 65 #[.val (.int x1)] [(.int (0 : Int32))])) (fun _ k => XS.iconst A0.here hx rfl (own_db hby d_method_2_64) k) ?_
                exact own_retN A0 hx hlk (t := .boolean) (by simp) hret (own_db hby d_method_2_65) (by decide) (by decide) ⟨by rw [show f2 x1 = (0 : Int32) from by unfold f2; simp only [if_neg hc1, if_neg hc2, if_neg hc3, if_pos hc4, if_pos hc5, if_neg hc6, if_pos hc7]] <;> rfl, rfl⟩
              · refine own_by (u' := T0.setTop (mkF m 60 #[.val (.int x1)] [])) (fun _ k => XS.icmpNo A0.here hx rfl (own_db hby d_method_2_57) rfl (flt hc7).2.2.1 k) ?_
                refine own_by (u' := T0.setTop (mkF m 61 #[.val (.int x1)] [(.int (1 : Int32))])) (fun _ k => XS.iconst A0.here hx rfl (own_db hby d_method_2_60) k) ?_
                refine own_by (u' := T0.setTop (mkF m 65 #[.val (.int x1)] [(.int (1 : Int32))])) (fun _ k => XS.goto A0.here hx rfl (pc0 := 61) (pc' := 65) rfl (own_db hby d_method_2_61) (by decide) (by decide) k) ?_
                exact own_retN A0 hx hlk (t := .boolean) (by simp) hret (own_db hby d_method_2_65) (by decide) (by decide) ⟨by rw [show f2 x1 = (1 : Int32) from by unfold f2; simp only [if_neg hc1, if_neg hc2, if_neg hc3, if_pos hc4, if_pos hc5, if_neg hc6, if_neg hc7]] <;> rfl, rfl⟩
          · refine own_by (u' := T0.setTop (mkF m 40 #[.val (.int x1)] [])) (fun _ k => XS.icmpNo A0.here hx rfl (own_db hby d_method_2_37) rfl (flt hc5).1 k) ?_
            refine own_by (u' := T0.setTop (mkF m 41 #[.val (.int x1)] [(.int x1)])) (fun _ k => XS.iloadN A0.here hx rfl (own_db hby d_method_2_40) rfl k) ?_
            refine own_ldcI A0 hx hZ hown (hw _ (List.mem_of_getElem? (i := 3) rfl)) (own_db hby d_method_2_41) ?_
            show own_go _ _ _ _ _ _ _ (T0.setTop (mkF m 43 #[.val (.int x1)] [(.int (65533 : Int32)), (.int x1)]))
            by_cases hc8 : (65533 : Int32) < x1
            · refine own_by (u' := T0.setTop (mkF m 48 #[.val (.int x1)] [])) (fun _ k => XS.icmpYes A0.here hx rfl (pc0 := 43) (pc' := 48) rfl (own_db hby d_method_2_43) rfl (tlt hc8).2.2.1 (by decide) (by decide) k) ?_
              refine own_by (u' := T0.setTop (mkF m 49 #[.val (.int x1)] [(.int x1)])) (fun _ k => XS.iloadN A0.here hx rfl (own_db hby d_method_2_48) rfl k) ?_
              refine own_ldcI A0 hx hZ hown (hw _ (List.mem_of_getElem? (i := 6) rfl)) (own_db hby d_method_2_49) ?_
              show own_go _ _ _ _ _ _ _ (T0.setTop (mkF m 51 #[.val (.int x1)] [(.int (65536 : Int32)), (.int x1)]))
              by_cases hc9 : x1 < (65536 : Int32)
              · refine own_by (u' := T0.setTop (mkF m 64 #[.val (.int x1)] [])) (fun _ k => XS.icmpYes A0.here hx rfl (pc0 := 51) (pc' := 64) rfl (own_db hby d_method_2_51) rfl (tlt hc9).1 (by decide) (by decide) k) ?_
                refine own_by (u' := T0.setTop (mkF m 65 #[.val (.int x1)] [(.int (0 : Int32))])) (fun _ k => XS.iconst A0.here hx rfl (own_db hby d_method_2_64) k) ?_
                exact own_retN A0 hx hlk (t := .boolean) (by simp) hret (own_db hby d_method_2_65) (by decide) (by decide) ⟨by rw [show f2 x1 = (0 : Int32) from by unfold f2; simp only [if_neg hc1, if_neg hc2, if_neg hc3, if_pos hc4, if_neg hc5, if_pos hc8, if_pos hc9]] <;> rfl, rfl⟩
              · refine own_by (u' := T0.setTop (mkF m 54 #[.val (.int x1)] [])) (fun _ k => XS.icmpNo A0.here hx rfl (own_db hby d_method_2_51) rfl (flt hc9).1 k) ?_
                refine own_by (u' := T0.setTop (mkF m 55 #[.val (.int x1)] [(.int x1)])) (fun _ k => XS.iloadN A0.here hx rfl (own_db hby d_method_2_54) rfl k) ?_
                refine own_ldcI A0 hx hZ hown (hw _ (List.mem_of_getElem? (i := 7) rfl)) (own_db hby d_method_2_55) ?_
                show own_go _ _ _ _ _ _ _ (T0.setTop (mkF m 57 #[.val (.int x1)] [(.int (1114111 : Int32)), (.int x1)]))
                by_cases hc10 : (1114111 : Int32) < x1
                · refine own_by (u' := T0.setTop (mkF m 64 #[.val (.int x1)] [])) (fun _ k => XS.icmpYes A0.here hx rfl (pc0 := 57) (pc' := 64) rfl (own_db hby d_method_2_57) rfl (tlt hc10).2.2.1 (by decide) (by decide) k) ?_
                  refine own_by (u' := T0.setTop (mkF m 65 #[.val (.int x1)] [(.int (0 : Int32))])) (fun _ k => XS.iconst A0.here hx rfl (own_db hby d_method_2_64) k) ?_
                  exact own_retN A0 hx hlk (t := .boolean) (by simp) hret (own_db hby d_method_2_65) (by decide) (by decide) ⟨by rw [show f2 x1 = (0 : Int32) from by unfold f2; simp only [if_neg hc1, if_neg hc2, if_neg hc3, if_pos hc4, if_neg hc5, if_pos hc8, if_neg hc9, if_pos hc10]] <;> rfl, rfl⟩
                · refine own_by (u' := T0.setTop (mkF m 60 #[.val (.int x1)] [])) (fun _ k => XS.icmpNo A0.here hx rfl (own_db hby d_method_2_57) rfl (flt hc10).2.2.1 k) ?_
                  refine own_by (u' := T0.setTop (mkF m 61 #[.val (.int x1)] [(.int (1 : Int32))])) (fun _ k => XS.iconst A0.here hx rfl (own_db hby d_method_2_60) k) ?_
                  refine own_by (u' := T0.setTop (mkF m 65 #[.val (.int x1)] [(.int (1 : Int32))])) (fun _ k => XS.goto A0.here hx rfl (pc0 := 61) (pc' := 65) rfl (own_db hby d_method_2_61) (by decide) (by decide) k) ?_
                  exact own_retN A0 hx hlk (t := .boolean) (by simp) hret (own_db hby d_method_2_65) (by decide) (by decide) ⟨by rw [show f2 x1 = (1 : Int32) from by unfold f2; simp only [if_neg hc1, if_neg hc2, if_neg hc3, if_pos hc4, if_neg hc5, if_pos hc8, if_neg hc9, if_neg hc10]] <;> rfl, rfl⟩
            · refine own_by (u' := T0.setTop (mkF m 46 #[.val (.int x1)] [])) (fun _ k => XS.icmpNo A0.here hx rfl (own_db hby d_method_2_43) rfl (flt hc8).2.2.1 k) ?_
              refine own_by (u' := T0.setTop (mkF m 47 #[.val (.int x1)] [(.int (1 : Int32))])) (fun _ k => XS.iconst A0.here hx rfl (own_db hby d_method_2_46) k) ?_
              exact own_retN A0 hx hlk (t := .boolean) (by simp) hret (own_db hby d_method_2_47) (by decide) (by decide) ⟨by rw [show f2 x1 = (1 : Int32) from by unfold f2; simp only [if_neg hc1, if_neg hc2, if_neg hc3, if_pos hc4, if_neg hc5, if_neg hc8]] <;> rfl, rfl⟩
        · refine own_by (u' := T0.setTop (mkF m 26 #[.val (.int x1)] [])) (fun _ k => XS.icmpNo A0.here hx rfl (own_db hby d_method_2_23) rfl (flt hc4).1 k) ?_
          refine own_by (u' := T0.setTop (mkF m 27 #[.val (.int x1)] [(.int x1)])) (fun _ k => XS.iloadN A0.here hx rfl (own_db hby d_method_2_26) rfl k) ?_
          refine own_ldcI A0 hx hZ hown (hw _ (List.mem_of_getElem? (i := 1) rfl)) (own_db hby d_method_2_27) ?_
          show own_go _ _ _ _ _ _ _ (T0.setTop (mkF m 29 #[.val (.int x1)] [(.int (55295 : Int32)), (.int x1)]))
          by_cases hc11 : (55295 : Int32) < x1
          · refine own_by (u' := T0.setTop (mkF m 34 #[.val (.int x1)] [])) (fun _ k => XS.icmpYes A0.here hx rfl (pc0 := 29) (pc' := 34) rfl (own_db hby d_method_2_29) rfl (tlt hc11).2.2.1 (by decide) (by decide) k) ?_
            refine own_by (u' := T0.setTop (mkF m 35 #[.val (.int x1)] [(.int x1)])) (fun _ k => XS.iloadN A0.here hx rfl (own_db hby d_method_2_34) rfl k) ?_
            refine own_ldcI A0 hx hZ hown (hw _ (List.mem_of_getElem? (i := 2) rfl)) (own_db hby d_method_2_35) ?_
            show own_go _ _ _ _ _ _ _ (T0.setTop (mkF m 37 #[.val (.int x1)] [(.int (57344 : Int32)), (.int x1)]))
            by_cases hc12 : x1 < (57344 : Int32)
            · refine own_by (u' := T0.setTop (mkF m 48 #[.val (.int x1)] [])) (fun _ k => XS.icmpYes A0.here hx rfl (pc0 := 37) (pc' := 48) rfl (own_db hby d_method_2_37) rfl (tlt hc12).1 (by decide) (by decide) k) ?_
              refine own_by (u' := T0.setTop (mkF m 49 #[.val (.int x1)] [(.int x1)])) (fun _ k => XS.iloadN A0.here hx rfl (own_db hby d_method_2_48) rfl k) ?_
              refine own_ldcI A0 hx hZ hown (hw _ (List.mem_of_getElem? (i := 6) rfl)) (own_db hby d_method_2_49) ?_
              show own_go _ _ _ _ _ _ _ (T0.setTop (mkF m 51 #[.val (.int x1)] [(.int (65536 : Int32)), (.int x1)]))
              by_cases hc13 : x1 < (65536 : Int32)
              · refine own_by (u' := T0.setTop (mkF m 64 #[.val (.int x1)] [])) (fun _ k => XS.icmpYes A0.here hx rfl (pc0 := 51) (pc' := 64) rfl (own_db hby d_method_2_51) rfl (tlt hc13).1 (by decide) (by decide) k) ?_
                refine own_by (u' := T0.setTop (mkF m 65 #[.val (.int x1)] [(.int (0 : Int32))])) (fun _ k => XS.iconst A0.here hx rfl (own_db hby d_method_2_64) k) ?_
                exact own_retN A0 hx hlk (t := .boolean) (by simp) hret (own_db hby d_method_2_65) (by decide) (by decide) ⟨by rw [show f2 x1 = (0 : Int32) from by unfold f2; simp only [if_neg hc1, if_neg hc2, if_neg hc3, if_neg hc4, if_pos hc11, if_pos hc12, if_pos hc13]] <;> rfl, rfl⟩
              · refine own_by (u' := T0.setTop (mkF m 54 #[.val (.int x1)] [])) (fun _ k => XS.icmpNo A0.here hx rfl (own_db hby d_method_2_51) rfl (flt hc13).1 k) ?_
                refine own_by (u' := T0.setTop (mkF m 55 #[.val (.int x1)] [(.int x1)])) (fun _ k => XS.iloadN A0.here hx rfl (own_db hby d_method_2_54) rfl k) ?_
                refine own_ldcI A0 hx hZ hown (hw _ (List.mem_of_getElem? (i := 7) rfl)) (own_db hby d_method_2_55) ?_
                show own_go _ _ _ _ _ _ _ (T0.setTop (mkF m 57 #[.val (.int x1)] [(.int (1114111 : Int32)), (.int x1)]))
                by_cases hc14 : (1114111 : Int32) < x1
                · refine own_by (u' := T0.setTop (mkF m 64 #[.val (.int x1)] [])) (fun _ k => XS.icmpYes A0.here hx rfl (pc0 := 57) (pc' := 64) rfl (own_db hby d_method_2_57) rfl (tlt hc14).2.2.1 (by decide) (by decide) k) ?_
                  refine own_by (u' := T0.setTop (mkF m 65 #[.val (.int x1)] [(.int (0 : Int32))])) (fun _ k => XS.iconst A0.here hx rfl (own_db hby d_method_2_64) k) ?_
                  exact own_retN A0 hx hlk (t := .boolean) (by simp) hret (own_db hby d_method_2_65) (by decide) (by decide) ⟨by rw [show f2 x1 = (0 : Int32) from by unfold f2; simp only [if_neg hc1, if_neg hc2, if_neg hc3, if_neg hc4, if_pos hc11, if_pos hc12, if_neg hc13, if_pos hc14]] <;> rfl, rfl⟩
                · refine own_by (u' := T0.setTop (mkF m 60 #[.val (.int x1)] [])) (fun _ k => XS.icmpNo A0.here hx rfl (own_db hby d_method_2_57) rfl (flt hc14).2.2.1 k) ?_
                  refine own_by (u' := T0.setTop (mkF m 61 #[.val (.int x1)] [(.int (1 : Int32))])) (fun _ k => XS.iconst A0.here hx rfl (own_db hby d_method_2_60) k) ?_
                  refine own_by (u' := T0.setTop (mkF m 65 #[.val (.int x1)] [(.int (1 : Int32))])) (fun _ k => XS.goto A0.here hx rfl (pc0 := 61) (pc' := 65) rfl (own_db hby d_method_2_61) (by decide) (by decide) k) ?_
                  exact own_retN A0 hx hlk (t := .boolean) (by simp) hret (own_db hby d_method_2_65) (by decide) (by decide) ⟨by rw [show f2 x1 = (1 : Int32) from by unfold f2; simp only [if_neg hc1, if_neg hc2, if_neg hc3, if_neg hc4, if_pos hc11, if_pos hc12, if_neg hc13, if_neg hc14]] <;> rfl, rfl⟩
            · refine own_by (u' := T0.setTop (mkF m 40 #[.val (.int x1)] [])) (fun _ k => XS.icmpNo A0.here hx rfl (own_db hby d_method_2_37) rfl (flt hc12).1 k) ?_
              refine own_by (u' := T0.setTop (mkF m 41 #[.val (.int x1)] [(.int x1)])) (fun _ k => XS.iloadN A0.here hx rfl (own_db hby d_method_2_40) rfl k) ?_
              refine own_ldcI A0 hx hZ hown (hw _ (List.mem_of_getElem? (i := 3) rfl)) (own_db hby d_method_2_41) ?_
              show own_go _ _ _ _ _ _ _ (T0.setTop (mkF m 43 #[.val (.int x1)] [(.int (65533 : Int32)), (.int x1)]))
              by_cases hc15 : (65533 : Int32) < x1
              · refine own_by (u' := T0.setTop (mkF m 48 #[.val (.int x1)] [])) (fun _ k => XS.icmpYes A0.here hx rfl (pc0 := 43) (pc' := 48) rfl (own_db hby d_method_2_43) rfl (tlt hc15).2.2.1 (by decide) (by decide) k) ?_
                refine own_by (u' := T0.setTop (mkF m 49 #[.val (.int x1)] [(.int x1)])) (fun _ k => XS.iloadN A0.here hx rfl (own_db hby d_method_2_48) rfl k) ?_
                refine own_ldcI A0 hx hZ hown (hw _ (List.mem_of_getElem? (i := 6) rfl)) (own_db hby d_method_2_49) ?_
                show own_go _ _ _ _ _ _ _ (T0.setTop (mkF m 51 #[.val (.int x1)] [(.int (65536 : Int32)), (.int x1)]))
                by_cases hc16 : x1 < (65536 : Int32)
                · refine own_by (u' := T0.setTop (mkF m 64 #[.val (.int x1)] [])) (fun _ k => XS.icmpYes A0.here hx rfl (pc0 := 51) (pc' := 64) rfl (own_db hby d_method_2_51) rfl (tlt hc16).1 (by decide) (by decide) k) ?_
                  refine own_by (u' := T0.setTop (mkF m 65 #[.val (.int x1)] [(.int (0 : Int32))])) (fun _ k => XS.iconst A0.here hx rfl (own_db hby d_method_2_64) k) ?_
                  exact own_retN A0 hx hlk (t := .boolean) (by simp) hret (own_db hby d_method_2_65) (by decide) (by decide) ⟨by rw [show f2 x1 = (0 : Int32) from by unfold f2; simp only [if_neg hc1, if_neg hc2, if_neg hc3, if_neg hc4, if_pos hc11, if_neg hc12, if_pos hc15, if_pos hc16]] <;> rfl, rfl⟩
                · refine own_by (u' := T0.setTop (mkF m 54 #[.val (.int x1)] [])) (fun _ k => XS.icmpNo A0.here hx rfl (own_db hby d_method_2_51) rfl (flt hc16).1 k) ?_
                  refine own_by (u' := T0.setTop (mkF m 55 #[.val (.int x1)] [(.int x1)])) (fun _ k => XS.iloadN A0.here hx rfl (own_db hby d_method_2_54) rfl k) ?_
                  refine own_ldcI A0 hx hZ hown (hw _ (List.mem_of_getElem? (i := 7) rfl)) (own_db hby d_method_2_55) ?_
                  show own_go _ _ _ _ _ _ _ (T0.setTop (mkF m 57 #[.val (.int x1)] [(.int (1114111 : Int32)), (.int x1)]))
                  by_cases hc17 : (1114111 : Int32) < x1
                  · refine own_by (u' := T0.setTop (mkF m 64 #[.val (.int x1)] [])) (fun _ k => XS.icmpYes A0.here hx rfl (pc0 := 57) (pc' := 64) rfl (own_db hby d_method_2_57) rfl (tlt hc17).2.2.1 (by decide) (by decide) k) ?_
                    refine own_by (u' := T0.setTop (mkF m 65 #[.val (.int x1)] [(.int (0 : Int32))])) (fun _ k => XS.iconst A0.here hx rfl (own_db hby d_method_2_64) k) ?_
                    exact own_retN A0 hx hlk (t := .boolean) (by simp) hret (own_db hby d_method_2_65) (by decide) (by decide) ⟨by rw [show f2 x1 = (0 : Int32) from by unfold f2; simp only [if_neg hc1, if_neg hc2, if_neg hc3, if_neg hc4, if_pos hc11, if_neg hc12, if_pos hc15, if_neg hc16, if_pos hc17]] <;> rfl, rfl⟩
                  · refine own_by (u' := T0.setTop (mkF m 60 #[.val (.int x1)] [])) (fun _ k => XS.icmpNo A0.here hx rfl (own_db hby d_method_2_57) rfl (flt hc17).2.2.1 k) ?_
                    refine own_by (u' := T0.setTop (mkF m 61 #[.val (.int x1)] [(.int (1 : Int32))])) (fun _ k => XS.iconst A0.here hx rfl (own_db hby d_method_2_60) k) ?_
                    refine own_by (u' := T0.setTop (mkF m 65 #[.val (.int x1)] [(.int (1 : Int32))])) (fun _ k => XS.goto A0.here hx rfl (pc0 := 61) (pc' := 65) rfl (own_db hby d_method_2_61) (by decide) (by decide) k) ?_
                    exact own_retN A0 hx hlk (t := .boolean) (by simp) hret (own_db hby d_method_2_65) (by decide) (by decide) ⟨by rw [show f2 x1 = (1 : Int32) from by unfold f2; simp only [if_neg hc1, if_neg hc2, if_neg hc3, if_neg hc4, if_pos hc11, if_neg hc12, if_pos hc15, if_neg hc16, if_neg hc17]] <;> rfl, rfl⟩
              · refine own_by (u' := T0.setTop (mkF m 46 #[.val (.int x1)] [])) (fun _ k => XS.icmpNo A0.here hx rfl (own_db hby d_method_2_43) rfl (flt hc15).2.2.1 k) ?_
                refine own_by (u' := T0.setTop (mkF m 47 #[.val (.int x1)] [(.int (1 : Int32))])) (fun _ k => XS.iconst A0.here hx rfl (own_db hby d_method_2_46) k) ?_
                exact own_retN A0 hx hlk (t := .boolean) (by simp) hret (own_db hby d_method_2_47) (by decide) (by decide) ⟨by rw [show f2 x1 = (1 : Int32) from by unfold f2; simp only [if_neg hc1, if_neg hc2, if_neg hc3, if_neg hc4, if_pos hc11, if_neg hc12, if_neg hc15]] <;> rfl, rfl⟩
          · refine own_by (u' := T0.setTop (mkF m 32 #[.val (.int x1)] [])) (fun _ k => XS.icmpNo A0.here hx rfl (own_db hby d_method_2_29) rfl (flt hc11).2.2.1 k) ?_
            refine own_by (u' := T0.setTop (mkF m 33 #[.val (.int x1)] [(.int (1 : Int32))])) (fun _ k => XS.iconst A0.here hx rfl (own_db hby d_method_2_32) k) ?_
            exact own_retN A0 hx hlk (t := .boolean) (by simp) hret (own_db hby d_method_2_33) (by decide) (by decide) ⟨by rw [show f2 x1 = (1 : Int32) from by unfold f2; simp only [if_neg hc1, if_neg hc2, if_neg hc3, if_neg hc4, if_neg hc11]] <;> rfl, rfl⟩
theorem own_same (c : Int32) : f1 c = f2 c := by
  have e1 : (32 : Int32).toInt = 32 := rfl
  have e2 : (55295 : Int32).toInt = 55295 := rfl
  have e3 : (57344 : Int32).toInt = 57344 := rfl
  have e4 : (1114111 : Int32).toInt = 1114111 := rfl
  have e5 : (65534 : Int32).toInt = 65534 := rfl
  have e6 : (65535 : Int32).toInt = 65535 := rfl
  have e7 : (65533 : Int32).toInt = 65533 := rfl
  have e8 : (65536 : Int32).toInt = 65536 := rfl
  have e9 : (9 : Int32).toInt = 9 := rfl
  have e10 : (10 : Int32).toInt = 10 := rfl
  have e13 : (13 : Int32).toInt = 13 := rfl
  unfold f1 f2
  simp only [Int32.lt_iff_toInt_lt, ← Int32.toInt_inj, e1, e2, e3, e4, e5, e6, e7, e8, e9, e10, e13]
  repeat' split
  all_goals first | rfl | (exfalso; omega)
theorem own_idx (x : Int32) : ¬ (((x.toUInt32 >>> ((1 : Int32) &&& 31).toUInt32).toInt32) % (16 : Int32)) < 0 ∧ (((x.toUInt32 >>> ((1 : Int32) &&& 31).toUInt32).toInt32) % (16 : Int32)).toNatClampNeg < 16 := by
  have b := rng32 x
  have q := c_iushr x 1 1 rfl (by decide)
  have r := (c_irem ((x.toUInt32 >>> ((1 : Int32) &&& 31).toUInt32).toInt32) 16 16 rfl).1 (by omega)
  have e0 : (0 : Int32).toInt = 0 := rfl
  rw [Int32.lt_iff_toInt_lt, e0, Int32.toNatClampNeg]
  omega
theorem own_ix {xs : List Int32} {j : Int32} {n : Nat} (hn : xs.length = n) (h : ¬ j < 0 ∧ j.toNatClampNeg < n) : ∃ v, ¬ j < 0 ∧ xs[j.toNatClampNeg]? = some v := by
  subst hn
  exact ⟨_, h.1, List.getElem?_eq_getElem h.2⟩
theorem pd__I_Z : parseMethodDescriptor "(I)Z" = some ⟨[.int], some .boolean⟩ := by decide +kernel
theorem pf_g0 : plainFor x = true := by first | exact plainFor_of_name (by first | (simp [plainName, overriddenIn]; done) | decide +kernel) | decide +kernel
theorem ef_g0 (m : MethodId) (x1 : Int32) (x2 : Int32) (x3 : Int32) : entryFrame m #[(.int x1), (.int x2), (.int x3)] maxLocals = (mkF m 0 #[.val (.int x1), .val (.int x2), .val (.int x3), .unset, .unset] []) := by first | (simp [entryFrame, mkF, argsToLocals, Value.category, maxLocals]; done) | rfl
set_option maxRecDepth 65536 in
set_option maxHeartbeats 40000000 in
theorem g0 (l : Launch) (Z : State) (a0 : Array Value) (hw : ∀ d ∈ tables_1, d.before a0 Z = true) (n0 : Nat) (x1 : Int32) (x2 : Int32) (x3 : Int32)  :
    own_met l Z n0 x code maxLocals ret room_1 #[(.int x1), (.int x2), (.int x3)] [] (fun v _ => v = some (.int 1) ∧ True) := by
  refine own_met.of pf_g0 ?_
  intro p e s m below meth c T0 hx hby hml hret hlk hZ hown hnm A0
  replace hown : s.vm.findClass "com/example/oropendola/oropendola/format/NamesIsXmlCharPinLaw" = some m.cls := hown
  replace hml : c.maxLocals = 5 := hml
  rw [ef_g0 m x1 x2 x3]
  show own_go _ _ _ _ _ _ _ (T0.setTop (mkF m 0 #[.val (.int x1), .val (.int x2), .val (.int x3), .unset, .unset] []))
  refine own_by (u' := T0.setTop (mkF m 2 #[.val (.int x1), .val (.int x2), .val (.int x3), .unset, .unset] [(.int (16 : Int32))])) (fun _ k => XS.bipush A0.here hx rfl (own_db hby at_0) k) ?_
  refine own_newP (aty := .int) A0 hx hZ (hw _ (List.mem_of_getElem? (i := 0) rfl)) (own_db hby at_2) (16) ⟨by decide, by decide⟩ (cap := 16) (by decide) (by decide) rfl (by decide) (by decide) ?_
  intro T1 A2
  replace A2 : own_at p l e _ s m _ below meth c n0 T1 1 16 [(own_ia Z .int (List.replicate 16 (0 : Int32)))] := A2
  show own_go _ _ _ _ _ _ _ (T1.setTop (mkF m 4 #[.val (.int x1), .val (.int x2), .val (.int x3), .unset, .unset] [(.ref (n0 + 0))]))
  refine own_by (u' := T1.setTop (mkF m 5 #[.val (.int x1), .val (.int x2), .val (.int x3), .val (.ref (n0 + 0)), .unset] [])) (fun _ k => XS.astoreN A2.here hx rfl (own_db hby at_4) rfl rfl (l' := #[.val (.int x1), .val (.int x2), .val (.int x3), .val (.ref (n0 + 0)), .unset]) rfl k) ?_
  refine own_by (u' := T1.setTop (mkF m 6 #[.val (.int x1), .val (.int x2), .val (.int x3), .val (.ref (n0 + 0)), .unset] [(.ref (n0 + 0))])) (fun _ k => XS.aloadN A2.here hx rfl (own_db hby at_5) rfl rfl k) ?_
  refine own_by (u' := T1.setTop (mkF m 7 #[.val (.int x1), .val (.int x2), .val (.int x3), .val (.ref (n0 + 0)), .unset] [(.int (0 : Int32)), (.ref (n0 + 0))])) (fun _ k => XS.iconst A2.here hx rfl (own_db hby at_6) k) ?_
  refine own_by (u' := T1.setTop (mkF m 9 #[.val (.int x1), .val (.int x2), .val (.int x3), .val (.ref (n0 + 0)), .unset] [(.int (9 : Int32)), (.int (0 : Int32)), (.ref (n0 + 0))])) (fun _ k => XS.bipush A2.here hx rfl (own_db hby at_7) k) ?_
  refine own_iastore A2 hx hZ (i := 0) rfl (0) ⟨by decide, by decide, by decide⟩ (own_db hby at_9) (its2 := [(own_ia Z .int ((9 : Int32) :: List.replicate 15 (0 : Int32)))]) rfl ?_
  intro T3 A4
  show own_go _ _ _ _ _ _ _ (T3.setTop (mkF m 10 #[.val (.int x1), .val (.int x2), .val (.int x3), .val (.ref (n0 + 0)), .unset] []))
  refine own_by (u' := T3.setTop (mkF m 11 #[.val (.int x1), .val (.int x2), .val (.int x3), .val (.ref (n0 + 0)), .unset] [(.ref (n0 + 0))])) (fun _ k => XS.aloadN A4.here hx rfl (own_db hby at_10) rfl rfl k) ?_
  refine own_by (u' := T3.setTop (mkF m 12 #[.val (.int x1), .val (.int x2), .val (.int x3), .val (.ref (n0 + 0)), .unset] [(.int (1 : Int32)), (.ref (n0 + 0))])) (fun _ k => XS.iconst A4.here hx rfl (own_db hby at_11) k) ?_
  refine own_by (u' := T3.setTop (mkF m 14 #[.val (.int x1), .val (.int x2), .val (.int x3), .val (.ref (n0 + 0)), .unset] [(.int (10 : Int32)), (.int (1 : Int32)), (.ref (n0 + 0))])) (fun _ k => XS.bipush A4.here hx rfl (own_db hby at_12) k) ?_
  refine own_iastore A4 hx hZ (i := 0) rfl (1) ⟨by decide, by decide, by decide⟩ (own_db hby at_14) (its2 := [(own_ia Z .int ((9 : Int32) :: (10 : Int32) :: List.replicate 14 (0 : Int32)))]) rfl ?_
  intro T5 A6
  show own_go _ _ _ _ _ _ _ (T5.setTop (mkF m 15 #[.val (.int x1), .val (.int x2), .val (.int x3), .val (.ref (n0 + 0)), .unset] []))
  refine own_by (u' := T5.setTop (mkF m 16 #[.val (.int x1), .val (.int x2), .val (.int x3), .val (.ref (n0 + 0)), .unset] [(.ref (n0 + 0))])) (fun _ k => XS.aloadN A6.here hx rfl (own_db hby at_15) rfl rfl k) ?_
  refine own_by (u' := T5.setTop (mkF m 17 #[.val (.int x1), .val (.int x2), .val (.int x3), .val (.ref (n0 + 0)), .unset] [(.int (2 : Int32)), (.ref (n0 + 0))])) (fun _ k => XS.iconst A6.here hx rfl (own_db hby at_16) k) ?_
  refine own_by (u' := T5.setTop (mkF m 19 #[.val (.int x1), .val (.int x2), .val (.int x3), .val (.ref (n0 + 0)), .unset] [(.int (13 : Int32)), (.int (2 : Int32)), (.ref (n0 + 0))])) (fun _ k => XS.bipush A6.here hx rfl (own_db hby at_17) k) ?_
  refine own_iastore A6 hx hZ (i := 0) rfl (2) ⟨by decide, by decide, by decide⟩ (own_db hby at_19) (its2 := [(own_ia Z .int ((9 : Int32) :: (10 : Int32) :: (13 : Int32) :: List.replicate 13 (0 : Int32)))]) rfl ?_
  intro T7 A8
  show own_go _ _ _ _ _ _ _ (T7.setTop (mkF m 20 #[.val (.int x1), .val (.int x2), .val (.int x3), .val (.ref (n0 + 0)), .unset] []))
  refine own_by (u' := T7.setTop (mkF m 21 #[.val (.int x1), .val (.int x2), .val (.int x3), .val (.ref (n0 + 0)), .unset] [(.ref (n0 + 0))])) (fun _ k => XS.aloadN A8.here hx rfl (own_db hby at_20) rfl rfl k) ?_
  refine own_by (u' := T7.setTop (mkF m 22 #[.val (.int x1), .val (.int x2), .val (.int x3), .val (.ref (n0 + 0)), .unset] [(.int (3 : Int32)), (.ref (n0 + 0))])) (fun _ k => XS.iconst A8.here hx rfl (own_db hby at_21) k) ?_
  refine own_by (u' := T7.setTop (mkF m 24 #[.val (.int x1), .val (.int x2), .val (.int x3), .val (.ref (n0 + 0)), .unset] [(.int (32 : Int32)), (.int (3 : Int32)), (.ref (n0 + 0))])) (fun _ k => XS.bipush A8.here hx rfl (own_db hby at_22) k) ?_
  refine own_iastore A8 hx hZ (i := 0) rfl (3) ⟨by decide, by decide, by decide⟩ (own_db hby at_24) (its2 := [(own_ia Z .int ((9 : Int32) :: (10 : Int32) :: (13 : Int32) :: (32 : Int32) :: List.replicate 12 (0 : Int32)))]) rfl ?_
  intro T9 A10
  show own_go _ _ _ _ _ _ _ (T9.setTop (mkF m 25 #[.val (.int x1), .val (.int x2), .val (.int x3), .val (.ref (n0 + 0)), .unset] []))
  refine own_by (u' := T9.setTop (mkF m 26 #[.val (.int x1), .val (.int x2), .val (.int x3), .val (.ref (n0 + 0)), .unset] [(.ref (n0 + 0))])) (fun _ k => XS.aloadN A10.here hx rfl (own_db hby at_25) rfl rfl k) ?_
  refine own_by (u' := T9.setTop (mkF m 27 #[.val (.int x1), .val (.int x2), .val (.int x3), .val (.ref (n0 + 0)), .unset] [(.int (4 : Int32)), (.ref (n0 + 0))])) (fun _ k => XS.iconst A10.here hx rfl (own_db hby at_26) k) ?_
  refine own_ldcI A10 hx hZ hown (hw _ (List.mem_of_getElem? (i := 1) rfl)) (own_db hby at_27) ?_
  show own_go _ _ _ _ _ _ _ (T9.setTop (mkF m 29 #[.val (.int x1), .val (.int x2), .val (.int x3), .val (.ref (n0 + 0)), .unset] [(.int (55295 : Int32)), (.int (4 : Int32)), (.ref (n0 + 0))]))
  refine own_iastore A10 hx hZ (i := 0) rfl (4) ⟨by decide, by decide, by decide⟩ (own_db hby at_29) (its2 := [(own_ia Z .int ((9 : Int32) :: (10 : Int32) :: (13 : Int32) :: (32 : Int32) :: (55295 : Int32) :: List.replicate 11 (0 : Int32)))]) rfl ?_
  intro T11 A12
  show own_go _ _ _ _ _ _ _ (T11.setTop (mkF m 30 #[.val (.int x1), .val (.int x2), .val (.int x3), .val (.ref (n0 + 0)), .unset] []))
  refine own_by (u' := T11.setTop (mkF m 31 #[.val (.int x1), .val (.int x2), .val (.int x3), .val (.ref (n0 + 0)), .unset] [(.ref (n0 + 0))])) (fun _ k => XS.aloadN A12.here hx rfl (own_db hby at_30) rfl rfl k) ?_
  refine own_by (u' := T11.setTop (mkF m 32 #[.val (.int x1), .val (.int x2), .val (.int x3), .val (.ref (n0 + 0)), .unset] [(.int (5 : Int32)), (.ref (n0 + 0))])) (fun _ k => XS.iconst A12.here hx rfl (own_db hby at_31) k) ?_
  refine own_ldcI A12 hx hZ hown (hw _ (List.mem_of_getElem? (i := 2) rfl)) (own_db hby at_32) ?_
  show own_go _ _ _ _ _ _ _ (T11.setTop (mkF m 34 #[.val (.int x1), .val (.int x2), .val (.int x3), .val (.ref (n0 + 0)), .unset] [(.int (57344 : Int32)), (.int (5 : Int32)), (.ref (n0 + 0))]))
  refine own_iastore A12 hx hZ (i := 0) rfl (5) ⟨by decide, by decide, by decide⟩ (own_db hby at_34) (its2 := [(own_ia Z .int ((9 : Int32) :: (10 : Int32) :: (13 : Int32) :: (32 : Int32) :: (55295 : Int32) :: (57344 : Int32) :: List.replicate 10 (0 : Int32)))]) rfl ?_
  intro T13 A14
  show own_go _ _ _ _ _ _ _ (T13.setTop (mkF m 35 #[.val (.int x1), .val (.int x2), .val (.int x3), .val (.ref (n0 + 0)), .unset] []))
  refine own_by (u' := T13.setTop (mkF m 36 #[.val (.int x1), .val (.int x2), .val (.int x3), .val (.ref (n0 + 0)), .unset] [(.ref (n0 + 0))])) (fun _ k => XS.aloadN A14.here hx rfl (own_db hby at_35) rfl rfl k) ?_
  refine own_by (u' := T13.setTop (mkF m 38 #[.val (.int x1), .val (.int x2), .val (.int x3), .val (.ref (n0 + 0)), .unset] [(.int (6 : Int32)), (.ref (n0 + 0))])) (fun _ k => XS.bipush A14.here hx rfl (own_db hby at_36) k) ?_
  refine own_ldcI A14 hx hZ hown (hw _ (List.mem_of_getElem? (i := 3) rfl)) (own_db hby at_38) ?_
  show own_go _ _ _ _ _ _ _ (T13.setTop (mkF m 40 #[.val (.int x1), .val (.int x2), .val (.int x3), .val (.ref (n0 + 0)), .unset] [(.int (65533 : Int32)), (.int (6 : Int32)), (.ref (n0 + 0))]))
  refine own_iastore A14 hx hZ (i := 0) rfl (6) ⟨by decide, by decide, by decide⟩ (own_db hby at_40) (its2 := [(own_ia Z .int ((9 : Int32) :: (10 : Int32) :: (13 : Int32) :: (32 : Int32) :: (55295 : Int32) :: (57344 : Int32) :: (65533 : Int32) :: List.replicate 9 (0 : Int32)))]) rfl ?_
  intro T15 A16
  show own_go _ _ _ _ _ _ _ (T15.setTop (mkF m 41 #[.val (.int x1), .val (.int x2), .val (.int x3), .val (.ref (n0 + 0)), .unset] []))
  refine own_by (u' := T15.setTop (mkF m 42 #[.val (.int x1), .val (.int x2), .val (.int x3), .val (.ref (n0 + 0)), .unset] [(.ref (n0 + 0))])) (fun _ k => XS.aloadN A16.here hx rfl (own_db hby at_41) rfl rfl k) ?_
  refine own_by (u' := T15.setTop (mkF m 44 #[.val (.int x1), .val (.int x2), .val (.int x3), .val (.ref (n0 + 0)), .unset] [(.int (7 : Int32)), (.ref (n0 + 0))])) (fun _ k => XS.bipush A16.here hx rfl (own_db hby at_42) k) ?_
  refine own_ldcI A16 hx hZ hown (hw _ (List.mem_of_getElem? (i := 4) rfl)) (own_db hby at_44) ?_
  show own_go _ _ _ _ _ _ _ (T15.setTop (mkF m 46 #[.val (.int x1), .val (.int x2), .val (.int x3), .val (.ref (n0 + 0)), .unset] [(.int (65534 : Int32)), (.int (7 : Int32)), (.ref (n0 + 0))]))
  refine own_iastore A16 hx hZ (i := 0) rfl (7) ⟨by decide, by decide, by decide⟩ (own_db hby at_46) (its2 := [(own_ia Z .int ((9 : Int32) :: (10 : Int32) :: (13 : Int32) :: (32 : Int32) :: (55295 : Int32) :: (57344 : Int32) :: (65533 : Int32) :: (65534 : Int32) :: List.replicate 8 (0 : Int32)))]) rfl ?_
  intro T17 A18
  show own_go _ _ _ _ _ _ _ (T17.setTop (mkF m 47 #[.val (.int x1), .val (.int x2), .val (.int x3), .val (.ref (n0 + 0)), .unset] []))
  refine own_by (u' := T17.setTop (mkF m 48 #[.val (.int x1), .val (.int x2), .val (.int x3), .val (.ref (n0 + 0)), .unset] [(.ref (n0 + 0))])) (fun _ k => XS.aloadN A18.here hx rfl (own_db hby at_47) rfl rfl k) ?_
  refine own_by (u' := T17.setTop (mkF m 50 #[.val (.int x1), .val (.int x2), .val (.int x3), .val (.ref (n0 + 0)), .unset] [(.int (8 : Int32)), (.ref (n0 + 0))])) (fun _ k => XS.bipush A18.here hx rfl (own_db hby at_48) k) ?_
  refine own_ldcI A18 hx hZ hown (hw _ (List.mem_of_getElem? (i := 5) rfl)) (own_db hby at_50) ?_
  show own_go _ _ _ _ _ _ _ (T17.setTop (mkF m 52 #[.val (.int x1), .val (.int x2), .val (.int x3), .val (.ref (n0 + 0)), .unset] [(.int (65535 : Int32)), (.int (8 : Int32)), (.ref (n0 + 0))]))
  refine own_iastore A18 hx hZ (i := 0) rfl (8) ⟨by decide, by decide, by decide⟩ (own_db hby at_52) (its2 := [(own_ia Z .int ((9 : Int32) :: (10 : Int32) :: (13 : Int32) :: (32 : Int32) :: (55295 : Int32) :: (57344 : Int32) :: (65533 : Int32) :: (65534 : Int32) :: (65535 : Int32) :: List.replicate 7 (0 : Int32)))]) rfl ?_
  intro T19 A20
  show own_go _ _ _ _ _ _ _ (T19.setTop (mkF m 53 #[.val (.int x1), .val (.int x2), .val (.int x3), .val (.ref (n0 + 0)), .unset] []))
  refine own_by (u' := T19.setTop (mkF m 54 #[.val (.int x1), .val (.int x2), .val (.int x3), .val (.ref (n0 + 0)), .unset] [(.ref (n0 + 0))])) (fun _ k => XS.aloadN A20.here hx rfl (own_db hby at_53) rfl rfl k) ?_
  refine own_by (u' := T19.setTop (mkF m 56 #[.val (.int x1), .val (.int x2), .val (.int x3), .val (.ref (n0 + 0)), .unset] [(.int (9 : Int32)), (.ref (n0 + 0))])) (fun _ k => XS.bipush A20.here hx rfl (own_db hby at_54) k) ?_
  refine own_ldcI A20 hx hZ hown (hw _ (List.mem_of_getElem? (i := 6) rfl)) (own_db hby at_56) ?_
  show own_go _ _ _ _ _ _ _ (T19.setTop (mkF m 58 #[.val (.int x1), .val (.int x2), .val (.int x3), .val (.ref (n0 + 0)), .unset] [(.int (65536 : Int32)), (.int (9 : Int32)), (.ref (n0 + 0))]))
  refine own_iastore A20 hx hZ (i := 0) rfl (9) ⟨by decide, by decide, by decide⟩ (own_db hby at_58) (its2 := [(own_ia Z .int ((9 : Int32) :: (10 : Int32) :: (13 : Int32) :: (32 : Int32) :: (55295 : Int32) :: (57344 : Int32) :: (65533 : Int32) :: (65534 : Int32) :: (65535 : Int32) :: (65536 : Int32) :: List.replicate 6 (0 : Int32)))]) rfl ?_
  intro T21 A22
  show own_go _ _ _ _ _ _ _ (T21.setTop (mkF m 59 #[.val (.int x1), .val (.int x2), .val (.int x3), .val (.ref (n0 + 0)), .unset] []))
  refine own_by (u' := T21.setTop (mkF m 60 #[.val (.int x1), .val (.int x2), .val (.int x3), .val (.ref (n0 + 0)), .unset] [(.ref (n0 + 0))])) (fun _ k => XS.aloadN A22.here hx rfl (own_db hby at_59) rfl rfl k) ?_
  refine own_by (u' := T21.setTop (mkF m 62 #[.val (.int x1), .val (.int x2), .val (.int x3), .val (.ref (n0 + 0)), .unset] [(.int (10 : Int32)), (.ref (n0 + 0))])) (fun _ k => XS.bipush A22.here hx rfl (own_db hby at_60) k) ?_
  refine own_ldcI A22 hx hZ hown (hw _ (List.mem_of_getElem? (i := 7) rfl)) (own_db hby at_62) ?_
  show own_go _ _ _ _ _ _ _ (T21.setTop (mkF m 64 #[.val (.int x1), .val (.int x2), .val (.int x3), .val (.ref (n0 + 0)), .unset] [(.int (1114111 : Int32)), (.int (10 : Int32)), (.ref (n0 + 0))]))
  refine own_iastore A22 hx hZ (i := 0) rfl (10) ⟨by decide, by decide, by decide⟩ (own_db hby at_64) (its2 := [(own_ia Z .int [(9 : Int32), (10 : Int32), (13 : Int32), (32 : Int32), (55295 : Int32), (57344 : Int32), (65533 : Int32), (65534 : Int32), (65535 : Int32), (65536 : Int32), (1114111 : Int32), (0 : Int32), (0 : Int32), (0 : Int32), (0 : Int32), (0 : Int32)])]) rfl ?_
  intro T23 A24
  show own_go _ _ _ _ _ _ _ (T23.setTop (mkF m 65 #[.val (.int x1), .val (.int x2), .val (.int x3), .val (.ref (n0 + 0)), .unset] []))
  refine own_by (u' := T23.setTop (mkF m 66 #[.val (.int x1), .val (.int x2), .val (.int x3), .val (.ref (n0 + 0)), .unset] [(.ref (n0 + 0))])) (fun _ k => XS.aloadN A24.here hx rfl (own_db hby at_65) rfl rfl k) ?_
  refine own_by (u' := T23.setTop (mkF m 68 #[.val (.int x1), .val (.int x2), .val (.int x3), .val (.ref (n0 + 0)), .unset] [(.int (11 : Int32)), (.ref (n0 + 0))])) (fun _ k => XS.bipush A24.here hx rfl (own_db hby at_66) k) ?_
  refine own_ldcI A24 hx hZ hown (hw _ (List.mem_of_getElem? (i := 8) rfl)) (own_db hby at_68) ?_
  show own_go _ _ _ _ _ _ _ (T23.setTop (mkF m 70 #[.val (.int x1), .val (.int x2), .val (.int x3), .val (.ref (n0 + 0)), .unset] [(.int (1114112 : Int32)), (.int (11 : Int32)), (.ref (n0 + 0))]))
  refine own_iastore A24 hx hZ (i := 0) rfl (11) ⟨by decide, by decide, by decide⟩ (own_db hby at_70) (its2 := [(own_ia Z .int [(9 : Int32), (10 : Int32), (13 : Int32), (32 : Int32), (55295 : Int32), (57344 : Int32), (65533 : Int32), (65534 : Int32), (65535 : Int32), (65536 : Int32), (1114111 : Int32), (1114112 : Int32), (0 : Int32), (0 : Int32), (0 : Int32), (0 : Int32)])]) rfl ?_
  intro T25 A26
  show own_go _ _ _ _ _ _ _ (T25.setTop (mkF m 71 #[.val (.int x1), .val (.int x2), .val (.int x3), .val (.ref (n0 + 0)), .unset] []))
  refine own_by (u' := T25.setTop (mkF m 72 #[.val (.int x1), .val (.int x2), .val (.int x3), .val (.ref (n0 + 0)), .unset] [(.ref (n0 + 0))])) (fun _ k => XS.aloadN A26.here hx rfl (own_db hby at_71) rfl rfl k) ?_
  refine own_by (u' := T25.setTop (mkF m 74 #[.val (.int x1), .val (.int x2), .val (.int x3), .val (.ref (n0 + 0)), .unset] [(.int (12 : Int32)), (.ref (n0 + 0))])) (fun _ k => XS.bipush A26.here hx rfl (own_db hby at_72) k) ?_
  refine own_by (u' := T25.setTop (mkF m 75 #[.val (.int x1), .val (.int x2), .val (.int x3), .val (.ref (n0 + 0)), .unset] [(.int (0 : Int32)), (.int (12 : Int32)), (.ref (n0 + 0))])) (fun _ k => XS.iconst A26.here hx rfl (own_db hby at_74) k) ?_
  refine own_iastore A26 hx hZ (i := 0) rfl (12) ⟨by decide, by decide, by decide⟩ (own_db hby at_75) (its2 := [(own_ia Z .int [(9 : Int32), (10 : Int32), (13 : Int32), (32 : Int32), (55295 : Int32), (57344 : Int32), (65533 : Int32), (65534 : Int32), (65535 : Int32), (65536 : Int32), (1114111 : Int32), (1114112 : Int32), (0 : Int32), (0 : Int32), (0 : Int32), (0 : Int32)])]) rfl ?_
  intro T27 A28
  show own_go _ _ _ _ _ _ _ (T27.setTop (mkF m 76 #[.val (.int x1), .val (.int x2), .val (.int x3), .val (.ref (n0 + 0)), .unset] []))
  refine own_by (u' := T27.setTop (mkF m 77 #[.val (.int x1), .val (.int x2), .val (.int x3), .val (.ref (n0 + 0)), .unset] [(.ref (n0 + 0))])) (fun _ k => XS.aloadN A28.here hx rfl (own_db hby at_76) rfl rfl k) ?_
  refine own_by (u' := T27.setTop (mkF m 79 #[.val (.int x1), .val (.int x2), .val (.int x3), .val (.ref (n0 + 0)), .unset] [(.int (13 : Int32)), (.ref (n0 + 0))])) (fun _ k => XS.bipush A28.here hx rfl (own_db hby at_77) k) ?_
  refine own_ldcI A28 hx hZ hown (hw _ (List.mem_of_getElem? (i := 9) rfl)) (own_db hby at_79) ?_
  show own_go _ _ _ _ _ _ _ (T27.setTop (mkF m 81 #[.val (.int x1), .val (.int x2), .val (.int x3), .val (.ref (n0 + 0)), .unset] [(.int (-2147483648 : Int32)), (.int (13 : Int32)), (.ref (n0 + 0))]))
  refine own_iastore A28 hx hZ (i := 0) rfl (13) ⟨by decide, by decide, by decide⟩ (own_db hby at_81) (its2 := [(own_ia Z .int [(9 : Int32), (10 : Int32), (13 : Int32), (32 : Int32), (55295 : Int32), (57344 : Int32), (65533 : Int32), (65534 : Int32), (65535 : Int32), (65536 : Int32), (1114111 : Int32), (1114112 : Int32), (0 : Int32), (-2147483648 : Int32), (0 : Int32), (0 : Int32)])]) rfl ?_
  intro T29 A30
  show own_go _ _ _ _ _ _ _ (T29.setTop (mkF m 82 #[.val (.int x1), .val (.int x2), .val (.int x3), .val (.ref (n0 + 0)), .unset] []))
  refine own_by (u' := T29.setTop (mkF m 83 #[.val (.int x1), .val (.int x2), .val (.int x3), .val (.ref (n0 + 0)), .unset] [(.ref (n0 + 0))])) (fun _ k => XS.aloadN A30.here hx rfl (own_db hby at_82) rfl rfl k) ?_
  refine own_by (u' := T29.setTop (mkF m 85 #[.val (.int x1), .val (.int x2), .val (.int x3), .val (.ref (n0 + 0)), .unset] [(.int (14 : Int32)), (.ref (n0 + 0))])) (fun _ k => XS.bipush A30.here hx rfl (own_db hby at_83) k) ?_
  refine own_ldcI A30 hx hZ hown (hw _ (List.mem_of_getElem? (i := 10) rfl)) (own_db hby at_85) ?_
  show own_go _ _ _ _ _ _ _ (T29.setTop (mkF m 87 #[.val (.int x1), .val (.int x2), .val (.int x3), .val (.ref (n0 + 0)), .unset] [(.int (2147483647 : Int32)), (.int (14 : Int32)), (.ref (n0 + 0))]))
  refine own_iastore A30 hx hZ (i := 0) rfl (14) ⟨by decide, by decide, by decide⟩ (own_db hby at_87) (its2 := [(own_ia Z .int [(9 : Int32), (10 : Int32), (13 : Int32), (32 : Int32), (55295 : Int32), (57344 : Int32), (65533 : Int32), (65534 : Int32), (65535 : Int32), (65536 : Int32), (1114111 : Int32), (1114112 : Int32), (0 : Int32), (-2147483648 : Int32), (2147483647 : Int32), (0 : Int32)])]) rfl ?_
  intro T31 A32
  show own_go _ _ _ _ _ _ _ (T31.setTop (mkF m 88 #[.val (.int x1), .val (.int x2), .val (.int x3), .val (.ref (n0 + 0)), .unset] []))
  refine own_by (u' := T31.setTop (mkF m 89 #[.val (.int x1), .val (.int x2), .val (.int x3), .val (.ref (n0 + 0)), .unset] [(.ref (n0 + 0))])) (fun _ k => XS.aloadN A32.here hx rfl (own_db hby at_88) rfl rfl k) ?_
  refine own_by (u' := T31.setTop (mkF m 91 #[.val (.int x1), .val (.int x2), .val (.int x3), .val (.ref (n0 + 0)), .unset] [(.int (15 : Int32)), (.ref (n0 + 0))])) (fun _ k => XS.bipush A32.here hx rfl (own_db hby at_89) k) ?_
  refine own_by (u' := T31.setTop (mkF m 93 #[.val (.int x1), .val (.int x2), .val (.int x3), .val (.ref (n0 + 0)), .unset] [(.int (31 : Int32)), (.int (15 : Int32)), (.ref (n0 + 0))])) (fun _ k => XS.bipush A32.here hx rfl (own_db hby at_91) k) ?_
  refine own_iastore A32 hx hZ (i := 0) rfl (15) ⟨by decide, by decide, by decide⟩ (own_db hby at_93) (its2 := [(own_ia Z .int [(9 : Int32), (10 : Int32), (13 : Int32), (32 : Int32), (55295 : Int32), (57344 : Int32), (65533 : Int32), (65534 : Int32), (65535 : Int32), (65536 : Int32), (1114111 : Int32), (1114112 : Int32), (0 : Int32), (-2147483648 : Int32), (2147483647 : Int32), (31 : Int32)])]) rfl ?_
  intro T33 A34
  show own_go _ _ _ _ _ _ _ (T33.setTop (mkF m 94 #[.val (.int x1), .val (.int x2), .val (.int x3), .val (.ref (n0 + 0)), .unset] []))
  refine own_by (u' := T33.setTop (mkF m 95 #[.val (.int x1), .val (.int x2), .val (.int x3), .val (.ref (n0 + 0)), .unset] [(.int x2)])) (fun _ k => XS.iloadN A34.here hx rfl (own_db hby at_94) rfl k) ?_
  refine own_by (u' := T33.setTop (mkF m 96 #[.val (.int x1), .val (.int x2), .val (.int x3), .val (.ref (n0 + 0)), .unset] [(.int (1 : Int32)), (.int x2)])) (fun _ k => XS.iconst A34.here hx rfl (own_db hby at_95) k) ?_
  refine own_by (u' := T33.setTop (mkF m 97 #[.val (.int x1), .val (.int x2), .val (.int x3), .val (.ref (n0 + 0)), .unset] [(.int (x2 &&& (1 : Int32)))])) (fun _ k => XS.iand A34.here hx rfl (own_db hby at_96) rfl k) ?_
  have J35 : ∀ (T36 : State) (cp : Int32), own_at p l e room_1 s m #[(.int x1), (.int x2), (.int x3)] below meth c n0 T36 1 16 [(own_ia Z .int [(9 : Int32), (10 : Int32), (13 : Int32), (32 : Int32), (55295 : Int32), (57344 : Int32), (65533 : Int32), (65534 : Int32), (65535 : Int32), (65536 : Int32), (1114111 : Int32), (1114112 : Int32), (0 : Int32), (-2147483648 : Int32), (2147483647 : Int32), (31 : Int32)])] → own_go p e room_1 s below n0 (fun v _ => v = some (.int 1) ∧ True) (T36.setTop (mkF m 120 #[.val (.int x1), .val (.int x2), .val (.int x3), .val (.ref (n0 + 0)), .val (.int cp)] [])) := by
    intro T36 cp A37 
    refine own_by (u' := T36.setTop (mkF m 122 #[.val (.int x1), .val (.int x2), .val (.int x3), .val (.ref (n0 + 0)), .val (.int cp)] [(.int cp)])) (fun _ k => XS.iload A37.here hx rfl (own_db hby at_120) rfl k) ?_
    refine own_callS (y := (⟨"com/example/oropendola/oropendola/format/Names", "isXmlChar", "(I)Z"⟩ : MethodName)) (rest := []) A37 hx hZ hown (hw _ (List.mem_of_getElem? (i := 11) rfl)) (hw _ (List.mem_of_getElem? (i := 12) rfl)) (hw _ (List.mem_of_getElem? (i := 13) rfl)) (hw _ (List.mem_of_getElem? (i := 14) rfl)) (by decide) (g1 l Z a0 hw n0 [(own_ia Z .int [(9 : Int32), (10 : Int32), (13 : Int32), (32 : Int32), (55295 : Int32), (57344 : Int32), (65533 : Int32), (65534 : Int32), (65535 : Int32), (65536 : Int32), (1114111 : Int32), (1114112 : Int32), (0 : Int32), (-2147483648 : Int32), (2147483647 : Int32), (31 : Int32)])] cp) (by rw [hml]; rfl) [(.int cp)] rfl rfl pd__I_Z rfl (W := 0) (by show 2 * 0 + _ ≤ _; exact Nat.le_of_eq rfl) (own_db hby at_122) (by decide) (by decide) (by decide) (by decide) ?_
    intro v38 i39 T41 hq40 A42
    obtain ⟨rfl, he43⟩ := hq40
    rw [he43] at A42
    replace A42 : own_at p l e _ s m _ below meth c n0 T41 1 16 [(own_ia Z .int [(9 : Int32), (10 : Int32), (13 : Int32), (32 : Int32), (55295 : Int32), (57344 : Int32), (65533 : Int32), (65534 : Int32), (65535 : Int32), (65536 : Int32), (1114111 : Int32), (1114112 : Int32), (0 : Int32), (-2147483648 : Int32), (2147483647 : Int32), (31 : Int32)])] := A42
    show own_go _ _ _ _ _ _ _ (T41.setTop (mkF m 125 #[.val (.int x1), .val (.int x2), .val (.int x3), .val (.ref (n0 + 0)), .val (.int cp)] [(.int (f1 cp))]))
    refine own_by (u' := T41.setTop (mkF m 127 #[.val (.int x1), .val (.int x2), .val (.int x3), .val (.ref (n0 + 0)), .val (.int cp)] [(.int cp), (.int (f1 cp))])) (fun _ k => XS.iload A42.here hx rfl (own_db hby at_125) rfl k) ?_
    refine own_callS (y := (⟨"com/example/oropendola/oropendola/format/NamesIsXmlCharPinLaw", "reference", "(I)Z"⟩ : MethodName)) (rest := [(.int (f1 cp))]) A42 hx hZ hown (hw _ (List.mem_of_getElem? (i := 15) rfl)) (hw _ (List.mem_of_getElem? (i := 16) rfl)) (hw _ (List.mem_of_getElem? (i := 17) rfl)) (hw _ (List.mem_of_getElem? (i := 18) rfl)) (by decide) (g2 l Z a0 hw n0 [(own_ia Z .int [(9 : Int32), (10 : Int32), (13 : Int32), (32 : Int32), (55295 : Int32), (57344 : Int32), (65533 : Int32), (65534 : Int32), (65535 : Int32), (65536 : Int32), (1114111 : Int32), (1114112 : Int32), (0 : Int32), (-2147483648 : Int32), (2147483647 : Int32), (31 : Int32)])] cp) (by rw [hml]; rfl) [(.int cp)] rfl rfl pd__I_Z rfl (W := 1) (by show 2 * 0 + _ ≤ _; exact Nat.le_of_eq rfl) (own_db hby at_127) (by decide) (by decide) (by decide) (by decide) ?_
    intro v44 i45 T47 hq46 A48
    obtain ⟨rfl, he49⟩ := hq46
    rw [he49] at A48
    replace A48 : own_at p l e _ s m _ below meth c n0 T47 1 16 [(own_ia Z .int [(9 : Int32), (10 : Int32), (13 : Int32), (32 : Int32), (55295 : Int32), (57344 : Int32), (65533 : Int32), (65534 : Int32), (65535 : Int32), (65536 : Int32), (1114111 : Int32), (1114112 : Int32), (0 : Int32), (-2147483648 : Int32), (2147483647 : Int32), (31 : Int32)])] := A48
    show own_go _ _ _ _ _ _ _ (T47.setTop (mkF m 130 #[.val (.int x1), .val (.int x2), .val (.int x3), .val (.ref (n0 + 0)), .val (.int cp)] [(.int (f2 cp)), (.int (f1 cp))]))
    refine own_by (u' := T47.setTop (mkF m 133 #[.val (.int x1), .val (.int x2), .val (.int x3), .val (.ref (n0 + 0)), .val (.int cp)] [])) (fun _ k => XS.icmpNo A48.here hx rfl (own_db hby at_130) rfl (teq (own_same _)).2 k) ?_
    refine own_by (u' := T47.setTop (mkF m 134 #[.val (.int x1), .val (.int x2), .val (.int x3), .val (.ref (n0 + 0)), .val (.int cp)] [(.int (1 : Int32))])) (fun _ k => XS.iconst A48.here hx rfl (own_db hby at_133) k) ?_
    refine own_by (u' := T47.setTop (mkF m 138 #[.val (.int x1), .val (.int x2), .val (.int x3), .val (.ref (n0 + 0)), .val (.int cp)] [(.int (1 : Int32))])) (fun _ k => XS.goto A48.here hx rfl (pc0 := 134) (pc' := 138) rfl (own_db hby at_134) (by decide) (by decide) k) ?_
    exact own_retN A48 hx hlk (t := .boolean) (by simp) hret (own_db hby at_138) (by decide) (by decide) ⟨rfl, trivial⟩
  by_cases hc50 : (x2 &&& (1 : Int32)) = (0 : Int32)
  · refine own_by (u' := T33.setTop (mkF m 100 #[.val (.int x1), .val (.int x2), .val (.int x3), .val (.ref (n0 + 0)), .unset] [])) (fun _ k => XS.ifNo A34.here hx rfl (own_db hby at_97) rfl ((if0 _ _).trans (teq hc50).2) k) ?_
    refine own_by (u' := T33.setTop (mkF m 101 #[.val (.int x1), .val (.int x2), .val (.int x3), .val (.ref (n0 + 0)), .unset] [(.int x1)])) (fun _ k => XS.iloadN A34.here hx rfl (own_db hby at_100) rfl k) ?_
    refine own_by (u' := T33.setTop (mkF m 103 #[.val (.int x1), .val (.int x2), .val (.int x3), .val (.ref (n0 + 0)), .val (.int x1)] [])) (fun _ k => XS.istore A34.here hx rfl (own_db hby at_101) rfl (l' := #[.val (.int x1), .val (.int x2), .val (.int x3), .val (.ref (n0 + 0)), .val (.int x1)]) rfl k) ?_
    refine own_by (u' := T33.setTop (mkF m 120 #[.val (.int x1), .val (.int x2), .val (.int x3), .val (.ref (n0 + 0)), .val (.int x1)] [])) (fun _ k => XS.goto A34.here hx rfl (pc0 := 103) (pc' := 120) rfl (own_db hby at_103) (by decide) (by decide) k) ?_
    exact J35 _ x1 (A34)
  · refine own_by (u' := T33.setTop (mkF m 106 #[.val (.int x1), .val (.int x2), .val (.int x3), .val (.ref (n0 + 0)), .unset] [])) (fun _ k => XS.ifYes A34.here hx rfl (pc0 := 97) (pc' := 106) rfl (own_db hby at_97) rfl ((if0 _ _).trans (feq hc50).2) (by decide) (by decide) k) ?_
    refine own_by (u' := T33.setTop (mkF m 107 #[.val (.int x1), .val (.int x2), .val (.int x3), .val (.ref (n0 + 0)), .unset] [(.ref (n0 + 0))])) (fun _ k => XS.aloadN A34.here hx rfl (own_db hby at_106) rfl rfl k) ?_
    refine own_by (u' := T33.setTop (mkF m 108 #[.val (.int x1), .val (.int x2), .val (.int x3), .val (.ref (n0 + 0)), .unset] [(.int x2), (.ref (n0 + 0))])) (fun _ k => XS.iloadN A34.here hx rfl (own_db hby at_107) rfl k) ?_
    refine own_by (u' := T33.setTop (mkF m 109 #[.val (.int x1), .val (.int x2), .val (.int x3), .val (.ref (n0 + 0)), .unset] [(.int (1 : Int32)), (.int x2), (.ref (n0 + 0))])) (fun _ k => XS.iconst A34.here hx rfl (own_db hby at_108) k) ?_
    refine own_by (u' := T33.setTop (mkF m 110 #[.val (.int x1), .val (.int x2), .val (.int x3), .val (.ref (n0 + 0)), .unset] [(.int ((x2.toUInt32 >>> ((1 : Int32) &&& 31).toUInt32).toInt32)), (.ref (n0 + 0))])) (fun _ k => XS.iushr A34.here hx rfl (own_db hby at_109) rfl k) ?_
    refine own_by (u' := T33.setTop (mkF m 112 #[.val (.int x1), .val (.int x2), .val (.int x3), .val (.ref (n0 + 0)), .unset] [(.int (16 : Int32)), (.int ((x2.toUInt32 >>> ((1 : Int32) &&& 31).toUInt32).toInt32)), (.ref (n0 + 0))])) (fun _ k => XS.bipush A34.here hx rfl (own_db hby at_110) k) ?_
    refine own_irem A34 hx (by decide) (own_db hby at_112) ?_
    show own_go _ _ _ _ _ _ _ (T33.setTop (mkF m 113 #[.val (.int x1), .val (.int x2), .val (.int x3), .val (.ref (n0 + 0)), .unset] [(.int (((x2.toUInt32 >>> ((1 : Int32) &&& 31).toUInt32).toInt32) % (16 : Int32))), (.ref (n0 + 0))]))
    obtain ⟨xv, hxv⟩ := own_ix (xs := [(9 : Int32), (10 : Int32), (13 : Int32), (32 : Int32), (55295 : Int32), (57344 : Int32), (65533 : Int32), (65534 : Int32), (65535 : Int32), (65536 : Int32), (1114111 : Int32), (1114112 : Int32), (0 : Int32), (-2147483648 : Int32), (2147483647 : Int32), (31 : Int32)]) (n := 16) rfl (own_idx x2)
    refine own_iaload A34 hx hZ (i := 0) rfl (x := xv) hxv (own_db hby at_113) ?_
    show own_go _ _ _ _ _ _ _ (T33.setTop (mkF m 114 #[.val (.int x1), .val (.int x2), .val (.int x3), .val (.ref (n0 + 0)), .unset] [(.int xv)]))
    refine own_by (u' := T33.setTop (mkF m 115 #[.val (.int x1), .val (.int x2), .val (.int x3), .val (.ref (n0 + 0)), .unset] [(.int x3), (.int xv)])) (fun _ k => XS.iloadN A34.here hx rfl (own_db hby at_114) rfl k) ?_
    refine own_by (u' := T33.setTop (mkF m 116 #[.val (.int x1), .val (.int x2), .val (.int x3), .val (.ref (n0 + 0)), .unset] [(.int (3 : Int32)), (.int x3), (.int xv)])) (fun _ k => XS.iconst A34.here hx rfl (own_db hby at_115) k) ?_
    refine own_irem A34 hx (by decide) (own_db hby at_116) ?_
    show own_go _ _ _ _ _ _ _ (T33.setTop (mkF m 117 #[.val (.int x1), .val (.int x2), .val (.int x3), .val (.ref (n0 + 0)), .unset] [(.int (x3 % (3 : Int32))), (.int xv)]))
    refine own_by (u' := T33.setTop (mkF m 118 #[.val (.int x1), .val (.int x2), .val (.int x3), .val (.ref (n0 + 0)), .unset] [(.int (xv + (x3 % (3 : Int32))))])) (fun _ k => XS.iadd A34.here hx rfl (own_db hby at_117) rfl k) ?_
    refine own_by (u' := T33.setTop (mkF m 120 #[.val (.int x1), .val (.int x2), .val (.int x3), .val (.ref (n0 + 0)), .val (.int (xv + (x3 % (3 : Int32))))] [])) (fun _ k => XS.istore A34.here hx rfl (own_db hby at_118) rfl (l' := #[.val (.int x1), .val (.int x2), .val (.int x3), .val (.ref (n0 + 0)), .val (.int (xv + (x3 % (3 : Int32))))]) rfl k) ?_
    exact J35 _ (xv + (x3 % (3 : Int32))) (A34)
set_option maxRecDepth 65536 in
set_option maxHeartbeats 40000000 in
theorem comes_1 {Post : Tables → Env → Array Value → State → Outcome → State → Prop} (hpost : ∀ tb e args s v u, (limb_1_1.after args s (.returned v) u = true ∧ limb_1_2.after args s (.returned v) u = true ∧ True) → FrameEnd s (.returned v) u (Jvm.fieldLocs frame_1_writes args s ++ Jvm.arrayLocs frame_1_arrays args s ++ Jvm.staticLocs frame_1_statics s) 16 128 → Post tb e args s (.returned v) u) :
    ArmFor flags0 classFile x code maxLocals ret World_1 tables_1 room_1 Calls_1 rest_1 Pre_1 Post := by
  intro l hfl _ _ p e ha hc hk s m args below hf hA hF happ hP
  obtain ⟨hcalls, hrest, hpre⟩ := hP
  obtain ⟨-, -, -, hnamed, -, -, -, hat⟩ := (Spec.applies_iff hf).mp happ
  obtain ⟨hg, hn⟩ := and_e (Cond.before_iff.mp (show (Jvm.Cond.and given_1 narrow_1).before args s = true from hpre))
  obtain ⟨h1, k0⟩ := and_e hg
  obtain ⟨j0, k1⟩ := and_e k0
  obtain ⟨j1, k2⟩ := and_e k1
  obtain ⟨w0, w1, w2, rfl⟩ : ∃ w0 w1 w2 : Value, args = #[w0, w1, w2] := by
    have hs : args.size = 3 := by simpa [Cond.value, given_1] using h1
    obtain ⟨L⟩ := args
    match L, hs with
    | [w0, w1, w2], _ => exact ⟨w0, w1, w2, rfl⟩
  have hw := fun d (hd : d ∈ tables_1) => atoms_spec (ws := Jvm.Cond.code x code maxLocals ret :: tables_1) hat d (List.mem_cons_of_mem _ hd)
  obtain ⟨i0, ei0⟩ := is_v j0
  obtain rfl : w0 = (.int i0) := Option.some.inj ei0
  obtain ⟨i1, ei1⟩ := is_v j1
  obtain rfl : w1 = (.int i1) := Option.some.inj ei1
  obtain ⟨i2, ei2⟩ := is_v k2
  obtain rfl : w2 = (.int i2) := Option.some.inj ei2
  obtain ⟨n, o, h1, h2, h3, v, L, rfl, ⟨N, its', ⟨rfl, -⟩, -⟩, hq⟩ := g0 l s _ hw s.heap.size i0 i1 i2 s.heap tables_1 ⟨rfl, fun i P q => nomatch q⟩ p e ha hc hk s m _ below hf ((Spec.applies_iff_loose hf).mp happ).1 ⟨rfl, State.Warmed39.refl s, rfl⟩ trivial
  refine ⟨n, _, h1, h2, h3, hpost _ _ _ _ _ _ ⟨Cond.after_iff.mpr rfl, Cond.after_iff.mpr (eq_i res_at (Term.int_eval (1)) rfl), trivial⟩ ⟨hq.1, hq.2.1, (hq.2.2.sift fun y hy => Or.inr (N y hy)).mono (by decide) (by decide)⟩⟩
theorem main_1_1 : Claimed_1_1 := comes_1 fun _ _ _ _ _ _ h hF => ⟨h.1, hF⟩
theorem main_1_2 : Claimed_1_2 := comes_1 fun _ _ _ _ _ _ h hF => ⟨h.2.1, hF⟩
end Jvm.Pilot.@@N@@
namespace Jvm.Pilot.@@N@@
open Jvm Jvm.ClassFile Sem Op Lib Jvm.Free Jvm.Stand Jvm.Pilot.@@N@@.Jvm.D
/-! MADE BY PROGRAM (witnessworld.py) out of the Statement's table words and the real class files: 9 classes; the members and pool entries that the words name. The judged class is class 1, her method 2. -/
namespace start1
open Jvm.ClassFile
def u (s : String) : CpInfo := .utf8 (stringToUtf16 s)
/-- a pool by its gaps: so many unusable entries, then the entry; so many at the end -/
def gap : Nat → List CpInfo → List CpInfo
  | 0, r => r
  | n + 1, r => .unusable :: gap n r
def poolList (es : List (Nat × CpInfo)) (last : Nat) : List CpInfo := es.foldr (fun e r => gap e.1 (e.2 :: r)) (gap last [])
def pool (es : List (Nat × CpInfo)) (last : Nat) : Array CpInfo := ⟨poolList es last⟩
def fileOf (pool : Array CpInfo) (this : Nat) (attrs : Array Attribute := #[]) (ms : Array MethodInfo := #[]) (fl : Nat := 33) (sup : Nat := 0) (ifs : Array Nat := #[]) (fds : Array FieldInfo := #[]) : ClassFile where
  minorVersion := 0
  majorVersion := 65
  constantPool := pool
  accessFlags := fl
  thisClass := this
  superClass := sup
  interfaces := ifs
  fields := fds
  methods := ms
  attributes := attrs
def plain (name : String) (sup : Option ClassId) : Class where
  name := name
  kind := .ordinary
  loader := none
  accessFlags := 33
  super := sup
  interfaces := #[]
  cf := none
  fields := #[]
  methods := #[]
  instanceTypes := #[]
  staticTypes := #[]
  resolved := #[]
  callSites := []
  init := .initialized
  statics := none
  mirror := none

def pool0 : Array CpInfo := pool [(5, u "<init>"), (0, u "()V"), (1, .class_ 10), (1, u "java/lang/Object")] 113

def k0m0 : Method := { name := "<init>", desc := "()V", sig := { parameters := [], returnType := none }, accessFlags := 1, code := none }
/-- java/lang/Object -/
def k0 : Class := { plain "java/lang/Object" none with
  accessFlags := 33
  interfaces := #[]
  cf := some (fileOf pool0 8 #[] #[{ accessFlags := 1, nameIndex := 5, descriptorIndex := 6, attributes := #[] }] 33 0 #[] #[])
  fields := #[]
  methods := #[k0m0]
  instanceTypes := #[]
  staticTypes := #[]
  resolved := Array.replicate 124 none
  statics := none }

def pool1 : Array CpInfo := pool [(2, .class_ 4), (1, u "java/lang/Object"), (0, u "<init>"), (0, u "()V"), (0, .integer 55295), (0, .integer 57344), (0, .integer 65533), (0, .integer 65536), (0, .integer 1114111), (0, .integer 65534), (0, .integer 65535), (0, .integer 1114112), (2, .integer 2147483648), (0, .integer 2147483647), (0, .methodref 20 21), (0, .class_ 22), (0, .nameAndType 23 24), (0, u "com/example/oropendola/oropendola/format/Names"), (0, u "isXmlChar"), (0, u "(I)Z"), (0, .methodref 26 27), (0, .class_ 28), (0, .nameAndType 29 24), (0, u "com/example/oropendola/oropendola/format/NamesIsXmlCharPinLaw"), (0, u "reference"), (3, u "law"), (0, u "(III)Z")] 4

def k1m0 : Method := { name := "<init>", desc := "()V", sig := { parameters := [], returnType := none }, accessFlags := 2, code := none }
def k1c1 : Code := { maxStack := 2, maxLocals := 1, code := method_2_code, exceptionTable := #[], attributes := #[] }
def k1m1 : Method := { name := "reference", desc := "(I)Z", sig := { parameters := [.int], returnType := some .boolean }, accessFlags := 10, code := some k1c1 }
def k1c2 : Code := { maxStack := 3, maxLocals := 5, code := code, exceptionTable := #[], attributes := #[] }
def k1m2 : Method := { name := "law", desc := "(III)Z", sig := { parameters := [.int, .int, .int], returnType := some .boolean }, accessFlags := 9, code := some k1c2 }
/-- com/example/oropendola/oropendola/format/NamesIsXmlCharPinLaw -/
def k1 : Class := { plain "com/example/oropendola/oropendola/format/NamesIsXmlCharPinLaw" (some 0) with
  accessFlags := 49
  interfaces := #[]
  cf := some (fileOf pool1 26 #[] #[{ accessFlags := 2, nameIndex := 5, descriptorIndex := 6, attributes := #[] }, { accessFlags := 10, nameIndex := 29, descriptorIndex := 24, attributes := #[] }, { accessFlags := 9, nameIndex := 33, descriptorIndex := 34, attributes := #[] }] 49 2 #[] #[])
  fields := #[]
  methods := #[k1m0, k1m1, k1m2]
  instanceTypes := #[]
  staticTypes := #[]
  resolved := Array.replicate 39 none
  statics := none }

def pool2 : Array CpInfo := pool [(2, .class_ 4), (1, u "java/lang/Object"), (0, u "<init>"), (0, u "()V"), (19, u "(I)Z"), (1, .class_ 30), (1, u "com/example/oropendola/oropendola/format/Names"), (4, .integer 55295), (0, .integer 57344), (0, .integer 1114111), (0, .integer 65534), (0, .integer 65535), (21, u "NAME_START_RANGES"), (0, u "[I"), (6, u "NAME_RANGES"), (6, u "EMPTY_STACK"), (0, u "Ljava/lang/String;"), (3, u "OUTPUT_MARK"), (2, u "COMMENT"), (0, u "C"), (1, u "BEGIN"), (2, u "END"), (2, u "NAME_CHARACTERS"), (7, u "isXmlChar")] 24

def k2m0 : Method := { name := "<init>", desc := "()V", sig := { parameters := [], returnType := none }, accessFlags := 2, code := none }
def k2c1 : Code := { maxStack := 2, maxLocals := 1, code := prog_73_method_3_code, exceptionTable := #[], attributes := #[] }
def k2m1 : Method := { name := "isXmlChar", desc := "(I)Z", sig := { parameters := [.int], returnType := some .boolean }, accessFlags := 9, code := some k2c1 }
/-- com/example/oropendola/oropendola/format/Names -/
def k2 : Class := { plain "com/example/oropendola/oropendola/format/Names" (some 0) with
  accessFlags := 49
  interfaces := #[]
  cf := some (fileOf pool2 28 #[] #[{ accessFlags := 2, nameIndex := 5, descriptorIndex := 6, attributes := #[] }, { accessFlags := 9, nameIndex := 101, descriptorIndex := 26, attributes := #[] }] 49 2 #[] #[{ accessFlags := 26, nameIndex := 61, descriptorIndex := 62, attributes := #[] }, { accessFlags := 26, nameIndex := 69, descriptorIndex := 62, attributes := #[] }, { accessFlags := 24, nameIndex := 76, descriptorIndex := 77, attributes := #[] }, { accessFlags := 24, nameIndex := 81, descriptorIndex := 77, attributes := #[] }, { accessFlags := 24, nameIndex := 84, descriptorIndex := 85, attributes := #[] }, { accessFlags := 24, nameIndex := 87, descriptorIndex := 77, attributes := #[] }, { accessFlags := 24, nameIndex := 90, descriptorIndex := 77, attributes := #[] }, { accessFlags := 24, nameIndex := 93, descriptorIndex := 77, attributes := #[] }])
  fields := #[{ name := "NAME_START_RANGES", type := (.array .int), accessFlags := 26, slot := 0, constantValue := 0 }, { name := "NAME_RANGES", type := (.array .int), accessFlags := 26, slot := 1, constantValue := 0 }, { name := "EMPTY_STACK", type := (.object "java/lang/String"), accessFlags := 24, slot := 2, constantValue := 0 }, { name := "OUTPUT_MARK", type := (.object "java/lang/String"), accessFlags := 24, slot := 3, constantValue := 0 }, { name := "COMMENT", type := .char, accessFlags := 24, slot := 4, constantValue := 0 }, { name := "BEGIN", type := (.object "java/lang/String"), accessFlags := 24, slot := 5, constantValue := 0 }, { name := "END", type := (.object "java/lang/String"), accessFlags := 24, slot := 6, constantValue := 0 }, { name := "NAME_CHARACTERS", type := (.object "java/lang/String"), accessFlags := 24, slot := 7, constantValue := 0 }]
  methods := #[k2m0, k2m1]
  instanceTypes := #[]
  staticTypes := #[(.array .int), (.array .int), (.object "java/lang/String"), (.object "java/lang/String"), .char, (.object "java/lang/String"), (.object "java/lang/String"), (.object "java/lang/String")]
  resolved := Array.replicate 126 none
  statics := none }

def pool3 : Array CpInfo := pool [(1, u "java/lang/Cloneable"), (0, .class_ 1), (0, u "java/lang/Object"), (0, .class_ 3)] 3

/-- java/lang/Cloneable -/
def k3 : Class := { plain "java/lang/Cloneable" (some 0) with
  accessFlags := 1537
  interfaces := #[]
  cf := some (fileOf pool3 2 #[] #[] 1537 4 #[] #[])
  fields := #[]
  methods := #[]
  instanceTypes := #[]
  staticTypes := #[]
  resolved := Array.replicate 8 none
  statics := none }

def pool4 : Array CpInfo := pool [(1, u "java/io/Serializable"), (0, .class_ 1), (0, u "java/lang/Object"), (0, .class_ 3)] 3

/-- java/io/Serializable -/
def k4 : Class := { plain "java/io/Serializable" (some 0) with
  accessFlags := 1537
  interfaces := #[]
  cf := some (fileOf pool4 2 #[] #[] 1537 4 #[] #[])
  fields := #[]
  methods := #[]
  instanceTypes := #[]
  staticTypes := #[]
  resolved := Array.replicate 8 none
  statics := none }

/-- the primitive byte -/
def k5 : Class := { plain "byte" none with kind := .primitive 'B', accessFlags := 0x411 }
/-- [B -/
def k6 : Class := { plain "[B" (some 0) with kind := .array 5 .byte, interfaces := #[3, 4], accessFlags := 1041 }

/-- the primitive int -/
def k7 : Class := { plain "int" none with kind := .primitive 'I', accessFlags := 0x411 }
/-- [I -/
def k8 : Class := { plain "[I" (some 0) with kind := .array 7 .int, interfaces := #[3, 4], accessFlags := 1041 }

def heap : Heap := #[]
def classes : Array Class := #[k0, k1, k2, k3, k4, k5, k6, k7, k8]
def interned : List (Array UInt16 × Addr) := []
def slotsUsed : Nat := 0
def theMethod : MethodId := ⟨1, 2⟩
def args0 : Array Value := #[.int 5, .int 6, .int 7]
def aboutOver (below : List Frame) : State where
  vm := { classes := classes, interned := interned.toArray }
  heap := heap
  slotsUsed := slotsUsed
  threads := #[{ frames := .invoking theMethod args0 :: below }]
def below0 : List Frame := [.native { method := ⟨0, 0⟩, args := #[] }]
def about1 : State := aboutOver below0
def p0 : Program := .bare "" "" ""
def e0 : Env := launch0.env 0 0 0
theorem w_frames : about1.frames = Frame.invoking theMethod args0 :: below0 := rfl
set_option maxRecDepth 65536 in
theorem w_args : argsFit about1.vm theMethod args0 = true := by decide +kernel
set_option maxRecDepth 65536 in
theorem w_heap : heapFits about1 = true := by decide +kernel
set_option maxRecDepth 65536 in
theorem w_runnable : about1.curStatus? = some .runnable := by decide +kernel
set_option maxRecDepth 65536 in
theorem w_alone : about1.alone = true := by decide +kernel
set_option maxRecDepth 65536 in
theorem w_named : about1.methodNamed? x = some theMethod := by decide +kernel
set_option maxRecDepth 65536 in
theorem w_hears : about1.hears theMethod below0 = true := by decide +kernel
set_option maxRecDepth 65536 in
theorem w_ripe : about1.ripe theMethod args0 below0 = true := by decide +kernel
theorem w_running : about1.status = .running := rfl
set_option maxRecDepth 65536 in
theorem w_room : about1.hasRoom e0.platform room_1 = true :=
  launch0.hasRoom_least _ room_1 (by decide +kernel) (by decide +kernel) (by decide +kernel) (by decide +kernel) (by decide +kernel) (by decide +kernel)
theorem allAtoms_all (ts : List Jvm.Cond) (a : Array Jvm.Value) (st : Jvm.State) : (allAtoms ts).before a st = ts.all (fun c => c.before a st) := by
  induction ts with
  | nil => rfl
  | cons c t ih =>
    show (Jvm.Cond.and c (allAtoms t)).before a st = _
    rw [Jvm.Cond.before_and, ih, List.all_cons]
def words1 : List Jvm.Cond := Jvm.Cond.code x code maxLocals ret :: tables_1
/-- a 'code' word, met by the world's own term for the bytes: nothing is compared byte by byte -/
theorem code_word {y : MethodName} {bytes : ByteArray} {mx : Nat} {rt : Option FieldType} {a : Array Value} {s : State} {m : MethodId} {meth : Method} {c : Code} (h1 : s.methodNamed? y = some m) (h2 : s.vm.method? m = some meth) (h3 : meth.code = some c) (h4 : c.code = bytes)
    (h5 : (c.maxLocals == mx && c.exceptionTable.isEmpty && decide (c.maxStack ≤ mostOperands) && decide (meth.sig.returnType = rt) && !meth.locks && decide (parseMethodDescriptor y.desc = some meth.sig)) = true) : (Jvm.Cond.code y bytes mx rt).before a s = true := by
  simp only [Bool.and_eq_true, beq_iff_eq, Bool.not_eq_true', decide_eq_true_eq] at h5
  obtain ⟨⟨⟨⟨⟨g1, g2⟩, g3⟩, g4⟩, g5⟩, g6⟩ := h5
  simp [Cond.before, Cond.holds, Cond.value, h1, h2, h3, h4, g1, g2, g3, g4, g5, g6]
def isCode : Jvm.Cond → Bool
  | .code _ _ _ _ => true
  | _ => false
theorem all_split {L : List Jvm.Cond} {P : Jvm.Cond → Bool} (h1 : L.all (fun c => isCode c || P c) = true) (h2 : ∀ c ∈ L.filter isCode, P c = true) : L.all P = true := by
  refine List.all_eq_true.mpr fun c hc => ?_
  have h := List.all_eq_true.mp h1 c hc
  rcases Bool.eq_false_or_eq_true (isCode c) with hi | hi
  · exact h2 c (List.mem_filter.mpr ⟨hc, hi⟩)
  · simpa [hi] using h
set_option maxRecDepth 65536 in
theorem w_c0 : (Jvm.Cond.code x code maxLocals ret).before args0 about1 = true := code_word (m := ⟨1, 2⟩) (meth := k1m2) (c := k1c2) (by decide +kernel) rfl rfl rfl (by decide +kernel)
set_option maxRecDepth 65536 in
theorem w_c1 : (Jvm.Cond.code ({ cls := "com/example/oropendola/oropendola/format/Names", name := "isXmlChar", desc := "(I)Z" } : Jvm.MethodName) prog_73_method_3_code (1 : Nat) (Option.some Jvm.ClassFile.FieldType.boolean)).before args0 about1 = true := code_word (m := ⟨2, 1⟩) (meth := k2m1) (c := k2c1) (by decide +kernel) rfl rfl rfl (by decide +kernel)
set_option maxRecDepth 65536 in
theorem w_c2 : (Jvm.Cond.code ({ cls := "com/example/oropendola/oropendola/format/NamesIsXmlCharPinLaw", name := "reference", desc := "(I)Z" } : Jvm.MethodName) method_2_code (1 : Nat) (Option.some Jvm.ClassFile.FieldType.boolean)).before args0 about1 = true := code_word (m := ⟨1, 1⟩) (meth := k1m1) (c := k1c1) (by decide +kernel) rfl rfl rfl (by decide +kernel)
def codes1 : List Jvm.Cond := [Jvm.Cond.code x code maxLocals ret, Jvm.Cond.code ({ cls := "com/example/oropendola/oropendola/format/Names", name := "isXmlChar", desc := "(I)Z" } : Jvm.MethodName) prog_73_method_3_code (1 : Nat) (Option.some Jvm.ClassFile.FieldType.boolean), Jvm.Cond.code ({ cls := "com/example/oropendola/oropendola/format/NamesIsXmlCharPinLaw", name := "reference", desc := "(I)Z" } : Jvm.MethodName) method_2_code (1 : Nat) (Option.some Jvm.ClassFile.FieldType.boolean)]
set_option maxRecDepth 65536 in
theorem codes_eq : words1.filter isCode = codes1 := rfl
theorem w_codes : ∀ c ∈ words1.filter isCode, c.before args0 about1 = true := by
  rw [codes_eq]
  intro c hc
  simp only [codes1, List.mem_cons, List.not_mem_nil, or_false] at hc
  rcases hc with rfl | rfl | rfl
  · exact w_c0
  · exact w_c1
  · exact w_c2
set_option maxRecDepth 65536 in
theorem w_t1 : (words1.take 24).all (fun c => isCode c || c.before args0 about1) = true := by decide +kernel
set_option maxRecDepth 65536 in
theorem w_t2 : (words1.drop 24).all (fun c => isCode c || c.before args0 about1) = true := by decide +kernel
theorem w_tables : (allAtoms (Jvm.Cond.code x code maxLocals ret :: tables_1)).before args0 about1 = true := by
  rw [allAtoms_all]
  show words1.all (fun c => c.before args0 about1) = true
  refine all_split ?_ w_codes
  rw [← List.take_append_drop 24 words1, List.all_append, w_t1, w_t2]
  rfl
set_option maxRecDepth 65536 in
theorem w_case : (Jvm.Cond.and given_1 narrow_1).before args0 about1 = true := by decide +kernel
theorem w_applies : (headSpec (Jvm.Cond.code x code maxLocals ret :: tables_1) room_1).applies x e0.platform about1 = true :=
  (Spec.applies_iff w_frames).mpr ⟨w_running, w_runnable, w_alone, w_named, w_hears, w_ripe, w_room, w_tables⟩
theorem atStart : AtStart classFile x code maxLocals ret World_1 tables_1 room_1 Calls_1 rest_1 Pre_1 launch0 p0 e0 about1 theMethod args0 below0 :=
  ⟨lists_1, trivial, launch0.admits_env _ _ _, launch0.least_env, fairChoices_fair.cas, fairChoices_fair.clock, w_frames, w_args, w_heap, w_applies, trivial, trivial, w_case⟩
end start1
theorem witness_1 : WitnessClaimed_1 := ⟨start1.p0, start1.e0, start1.about1, start1.theMethod, start1.args0, start1.below0, start1.atStart⟩
end Jvm.Pilot.@@N@@
