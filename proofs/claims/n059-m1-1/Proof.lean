import JvmDerived
import JvmDerived.Pilot.@@N@@Statement
import JvmDerived.Pilot.@@N@@Code
set_option linter.unusedVariables false
set_option linter.unusedSimpArgs false
namespace Jvm.Pilot.@@N@@
open Jvm Jvm.ClassFile Sem Op Lib Jvm.Free Jvm.Stand Jvm.LawKit Jvm.RoadKit Bundle Jvm.Pilot.@@N@@.Jvm.D
/-! ## my own layer: a walk read forward (Wk), where it stands (Hr), what a body promises (Con) -/
/-- from the state a the walk ends, and G holds of its end -/
def Wk (tb : Tables) (e : Env) (below : List Frame) (G : State → Outcome → Prop) (a : State) : Prop := ∃ t o, Steps tb e below a t ∧ t.status = .running ∧ Ended t below o ∧ G t o
theorem Wk.go {tb : Tables} {e : Env} {below : List Frame} {G : State → Outcome → Prop} {a b : State} (f : ∀ t, Steps tb e below b t → Steps tb e below a t) (k : Wk tb e below G b) : Wk tb e below G a := by
  obtain ⟨t, o, q, r⟩ := k
  exact ⟨t, o, f t q, r⟩
/-- where a walk stands: the library's Stand, with all that a step asks; nothing below n0 was written -/
def Hr (p : Program) (l : Launch) (e : Env) (R : Room) (s : State) (m : MethodId) (args : Array Value) (below : List Frame) (meth : Method) (c : Code) (Z : State) (own : String) (bs : ByteArray) (ml n0 : Nat) (rt : Option FieldType) (T : State) (h : Heap) (cells slots : Nat) : Prop :=
  (∃ locs, Stand p l e R s m args below meth c T locs cells slots ∧ Fr n0 locs) ∧ p.tables.exec = Jvm.exec ∧ c.code = bs ∧ c.maxLocals = ml ∧ Z.Warmed39 s.vm ∧ s.vm.findClass own = some m.cls ∧ meth.sig.returnType = rt ∧ meth.locks = false ∧ T.heap = h
/-- the end that a contract speaks of -/
def Gl (s : State) (n0 : Nat) (Q : Option Value → Heap → Prop) (C N : Nat) (t : State) (o : Outcome) : Prop := ∃ v L, o = .returned v ∧ (Q v t.heap ∧ Fr n0 L) ∧ FrameEnd s o t L C N
/-- what a body promises: started with these arguments at this heap it returns, and Q holds of the value and the heap -/
abbrev Con (l : Launch) (y : MethodName) (bytes : ByteArray) (maxL : Nat) (rt : Option FieldType) (rm : Room) (ws : List Jvm.Cond) (Z : State) (as' : Array Value) (h0 : Heap) (n0 : Nat) (Q : Option Value → Heap → Prop) : Prop :=
  MetFree l y (head1 (Jvm.Cond.code y bytes maxL rt :: ws) rm) (fun a U => a = as' ∧ Z.Warmed39 U.vm ∧ U.heap = h0) (fun _ _ _ _ _ => True) (fun _ U o U' => ∃ v L, o = .returned v ∧ (Q v U'.heap ∧ Fr n0 L) ∧ FrameEnd U o U' L rm.cells rm.slots)
theorem Con.of {l : Launch} {y : MethodName} {bytes : ByteArray} {maxL : Nat} {rt : Option FieldType} {rm : Room} {ws : List Jvm.Cond} {Z : State} {as' : Array Value} {h0 : Heap} {n0 : Nat} {Q : Option Value → Heap → Prop} (hp : plainFor y = true)
    (body : ∀ p e s m below meth c T, Hr p l e rm s m as' below meth c Z y.cls bytes maxL n0 rt T h0 0 0 → meth.name = y.name → Wk p.tables e below (Gl s n0 Q rm.cells rm.slots) (T.setTop (entryFrame m as' maxL))) : Con l y bytes maxL rt rm ws Z as' h0 n0 Q := by
  refine MetFree.of_bodySF hp hisR ?_
  intro p e s m args below meth c s₁ Bd hml0 hP hK
  obtain ⟨rfl, hZ, hh⟩ := hP
  have e0 : s₁.heap = h0 := by rw [← hh, Bd.state]; rfl
  exact body p e s m below meth c s₁ ⟨⟨[], Stand.of_body Bd, Fr.nil n0⟩, Bd.exec, Bd.bytes, hml0, hZ, findClass_of_methodNamed Bd.named, Bd.returns, Bd.notSynchronized, e0⟩ (name_of_methodNamed Bd.named Bd.method).1
/-- an array and all that it holds -/
def Arl (Z : State) (h : Heap) (a : Addr) (ty : FieldType) (us : List Value) : Prop := ∃ cl : Cell, Arr Z h a cl ty ∧ cl.slots = us.toArray ∧ us.length < 2 ^ 31
section Layer
variable {p : Program} {l : Launch} {e : Env} {R : Room} {s : State} {m : MethodId} {args : Array Value} {below : List Frame} {meth : Method} {c : Code} {Z : State} {own : String} {bs : ByteArray} {ml n0 : Nat} {rt : Option FieldType} {T : State} {h h' : Heap} {cells slots : Nat} {G : State → Outcome → Prop} {pc : Nat} {Ls : Array Slot} {st : List Value} {a0 : Array Value}
theorem Arl.ext {a : Addr} {ty : FieldType} {us : List Value} (A : Arl Z h a ty us) (E : Ext h h') : Arl Z h' a ty us := by
  obtain ⟨cl, A, r⟩ := A; exact ⟨cl, A.ext E, r⟩
theorem Arl.lt {a : Addr} {ty : FieldType} {us : List Value} (A : Arl Z h a ty us) : a < h.size := by
  obtain ⟨cl, A, r⟩ := A; exact A.lt
theorem Arl.other {a b : Addr} {ty : FieldType} {us : List Value} {sl : Nat} {v : Value} (A : Arl Z h b ty us) (W : Wr h h' a sl v) (q : b ≠ a) : Arl Z h' b ty us := by
  obtain ⟨cl, A, r⟩ := A; exact ⟨cl, A.other W q, r⟩
theorem Arl.keep {a : Addr} {ty : FieldType} {us : List Value} {ws : List Addr} (A : Arl Z h a ty us) (K : Keep h h' ws) (q : a ∉ ws) : Arl Z h' a ty us := by
  obtain ⟨cl, A, r⟩ := A; exact ⟨cl, ⟨K.2.1 a cl A.1 q, A.2⟩, r⟩
theorem Arl.set {a : Addr} {ty : FieldType} {us : List Value} {i : Nat} {v : Value} (A : Arl Z h a ty us) (W : Wr h h' a i v) : Arl Z h' a ty (us.set i v) := by
  obtain ⟨cl, A, r1, r2⟩ := A
  refine ⟨cl.setSlot i v, A.same W, ?_, by simpa using r2⟩
  simp [Cell.setSlot, r1]
theorem Arl.len {a : Addr} {ty : FieldType} {us : List Value} (A : Arl Z h a ty us) : us.length < 2 ^ 31 := by
  obtain ⟨cl, A, r1, r2⟩ := A; exact r2
theorem Arl.ne {a b : Addr} {ty : FieldType} {us : List Value} {C : String} {k : Nat} (A : Arl Z h a ty us) (E : Exa Z h b C) (wi : (Cond.instantiable C k).before a0 Z = true) : a ≠ b := by
  obtain ⟨cl, A, r⟩ := A; exact (ne_arr E wi A).symm
theorem ix_in {j : Int32} {i n : Nat} (hj : j.toInt = i) (hi : i < n) : ¬ (j < 0 ∨ n ≤ j.toNatClampNeg) ∧ j.toNatClampNeg = i := by
  have q : j.toNatClampNeg = i := by simp [Int32.toNatClampNeg, hj]
  refine ⟨?_, q⟩
  rw [q, Int32.lt_iff_toInt_lt, hj]
  simp only [Int32.reduceToInt]
  omega
theorem len32 {n : Nat} (h : n < 2 ^ 31) : n.toInt32.toInt = n := len_toInt h
/-- the branch is taken -/
def cmpT : ClassFile.Cond → Int32 → Int32 → Prop
  | .eq, x, y => x = y
  | .ne, x, y => ¬ x = y
  | .lt, x, y => x < y
  | .ge, x, y => ¬ x < y
  | .gt, x, y => y < x
  | .le, x, y => ¬ y < x
/-- the branch is not taken -/
def cmpF : ClassFile.Cond → Int32 → Int32 → Prop
  | .eq, x, y => ¬ x = y
  | .ne, x, y => x = y
  | .lt, x, y => ¬ x < y
  | .ge, x, y => x < y
  | .gt, x, y => ¬ y < x
  | .le, x, y => y < x
theorem cmp_t {cd : ClassFile.Cond} {x y : Int32} (q : cmpT cd x y) : if_icmp.holds cd x y = true := by
  cases cd
  · exact (teq q).1
  · exact (feq q).2
  · exact (tlt q).1
  · exact (flt q).2.1
  · exact (tlt q).2.2.1
  · exact (flt q).2.2.2
theorem cmp_f {cd : ClassFile.Cond} {x y : Int32} (q : cmpF cd x y) : if_icmp.holds cd x y = false := by
  cases cd
  · exact (feq q).1
  · exact (teq q).2
  · exact (flt q).1
  · exact (tlt q).2.1
  · exact (flt q).2.2.1
  · exact (tlt q).2.2.2
theorem cmp_or (cd : ClassFile.Cond) (x y : Int32) : cmpT cd x y ∨ cmpF cd x y := by
  cases cd
  · exact Classical.em _
  · exact (Classical.em _).symm
  · exact Classical.em _
  · exact (Classical.em _).symm
  · exact Classical.em _
  · exact (Classical.em _).symm
/-- a step that only moves the frame -/
theorem Wk.pu (X : Hr p l e R s m args below meth c Z own bs ml n0 rt T h cells slots) {a b : State} (f : At T m c below → p.tables.exec = Jvm.exec → c.code = bs → ∀ t, Steps p.tables e below b t → Steps p.tables e below a t) (k : Wk p.tables e below G b) : Wk p.tables e below G a := by
  obtain ⟨⟨locs, Y, N⟩, hx, hc, -⟩ := X
  exact Wk.go (f Y.here hx hc) k
/-- two roads that meet at b: it is walked once -/
theorem Wk.join {a : State} (b : State) (P : Prop) (k2 : P → Wk p.tables e below G b) (k1 : (P → Wk p.tables e below G b) → Wk p.tables e below G a) : Wk p.tables e below G a := k1 k2
theorem Wk.iload (X : Hr p l e R s m args below meth c Z own bs ml n0 rt T h cells slots) {i : Nat} {v : Int32} (hd : decode bs pc = .ok (.iload i, 2)) (pc' : Nat) (hp : pc + 2 = pc') (hl : Ls[i]? = some (.val (.int v))) (k : Wk p.tables e below G (T.setTop (mkF m pc' Ls (.int v :: st)))) : Wk p.tables e below G (T.setTop (mkF m pc Ls st)) := by
  subst hp
  exact Wk.pu X (fun hA hx hc t q => XS.iload hA hx rfl (hb hc hd) hl q) k
theorem Wk.iloadN (X : Hr p l e R s m args below meth c Z own bs ml n0 rt T h cells slots) {i : Fin 4} {v : Int32} (hd : decode bs pc = .ok (.iload_n i, 1)) (pc' : Nat) (hp : pc + 1 = pc') (hl : Ls[i.val]? = some (.val (.int v))) (k : Wk p.tables e below G (T.setTop (mkF m pc' Ls (.int v :: st)))) : Wk p.tables e below G (T.setTop (mkF m pc Ls st)) := by
  subst hp
  exact Wk.pu X (fun hA hx hc t q => XS.iloadN hA hx rfl (hb hc hd) hl q) k
theorem Wk.lload (X : Hr p l e R s m args below meth c Z own bs ml n0 rt T h cells slots) {i : Nat} {v : Int64} (hd : decode bs pc = .ok (.lload i, 2)) (pc' : Nat) (hp : pc + 2 = pc') (hl : Ls[i]? = some (.val (.long v))) (k : Wk p.tables e below G (T.setTop (mkF m pc' Ls (.long v :: st)))) : Wk p.tables e below G (T.setTop (mkF m pc Ls st)) := by
  subst hp
  exact Wk.pu X (fun hA hx hc t q => XS.lload hA hx rfl (hb hc hd) hl q) k
theorem Wk.lloadN (X : Hr p l e R s m args below meth c Z own bs ml n0 rt T h cells slots) {i : Fin 4} {v : Int64} (hd : decode bs pc = .ok (.lload_n i, 1)) (pc' : Nat) (hp : pc + 1 = pc') (hl : Ls[i.val]? = some (.val (.long v))) (k : Wk p.tables e below G (T.setTop (mkF m pc' Ls (.long v :: st)))) : Wk p.tables e below G (T.setTop (mkF m pc Ls st)) := by
  subst hp
  exact Wk.pu X (fun hA hx hc t q => XS.lloadN hA hx rfl (hb hc hd) hl q) k
theorem Wk.aload (X : Hr p l e R s m args below meth c Z own bs ml n0 rt T h cells slots) {i : Nat} {v : Value} (hd : decode bs pc = .ok (.aload i, 2)) (pc' : Nat) (hp : pc + 2 = pc') (hl : Ls[i]? = some (.val v)) (hv : v.isRef = true) (k : Wk p.tables e below G (T.setTop (mkF m pc' Ls (v :: st)))) : Wk p.tables e below G (T.setTop (mkF m pc Ls st)) := by
  subst hp
  exact Wk.pu X (fun hA hx hc t q => XS.aload hA hx rfl (hb hc hd) hl hv q) k
theorem Wk.aloadN (X : Hr p l e R s m args below meth c Z own bs ml n0 rt T h cells slots) {i : Fin 4} {v : Value} (hd : decode bs pc = .ok (.aload_n i, 1)) (pc' : Nat) (hp : pc + 1 = pc') (hl : Ls[i.val]? = some (.val v)) (hv : v.isRef = true) (k : Wk p.tables e below G (T.setTop (mkF m pc' Ls (v :: st)))) : Wk p.tables e below G (T.setTop (mkF m pc Ls st)) := by
  subst hp
  exact Wk.pu X (fun hA hx hc t q => XS.aloadN hA hx rfl (hb hc hd) hl hv q) k
theorem Wk.istore (X : Hr p l e R s m args below meth c Z own bs ml n0 rt T h cells slots) {i : Nat} {v : Int32} (hd : decode bs pc = .ok (.istore i, 2)) (pc' : Nat) (hp : pc + 2 = pc') (Ls' : Array Slot) (hl : storeLocals Ls i (.int v) = some Ls') (k : Wk p.tables e below G (T.setTop (mkF m pc' Ls' st))) : Wk p.tables e below G (T.setTop (mkF m pc Ls (.int v :: st))) := by
  subst hp
  exact Wk.pu X (fun hA hx hc t q => XS.istore hA hx rfl (hb hc hd) rfl hl q) k
theorem Wk.istoreN (X : Hr p l e R s m args below meth c Z own bs ml n0 rt T h cells slots) {i : Fin 4} {v : Int32} (hd : decode bs pc = .ok (.istore_n i, 1)) (pc' : Nat) (hp : pc + 1 = pc') (Ls' : Array Slot) (hl : storeLocals Ls i.val (.int v) = some Ls') (k : Wk p.tables e below G (T.setTop (mkF m pc' Ls' st))) : Wk p.tables e below G (T.setTop (mkF m pc Ls (.int v :: st))) := by
  subst hp
  exact Wk.pu X (fun hA hx hc t q => XS.istoreN hA hx rfl (hb hc hd) rfl hl q) k
theorem Wk.lstore (X : Hr p l e R s m args below meth c Z own bs ml n0 rt T h cells slots) {i : Nat} {v : Int64} (hd : decode bs pc = .ok (.lstore i, 2)) (pc' : Nat) (hp : pc + 2 = pc') (Ls' : Array Slot) (hl : storeLocals Ls i (.long v) = some Ls') (k : Wk p.tables e below G (T.setTop (mkF m pc' Ls' st))) : Wk p.tables e below G (T.setTop (mkF m pc Ls (.long v :: st))) := by
  subst hp
  exact Wk.pu X (fun hA hx hc t q => XS.lstore hA hx rfl (hb hc hd) rfl hl q) k
theorem Wk.lstoreN (X : Hr p l e R s m args below meth c Z own bs ml n0 rt T h cells slots) {i : Fin 4} {v : Int64} (hd : decode bs pc = .ok (.lstore_n i, 1)) (pc' : Nat) (hp : pc + 1 = pc') (Ls' : Array Slot) (hl : storeLocals Ls i.val (.long v) = some Ls') (k : Wk p.tables e below G (T.setTop (mkF m pc' Ls' st))) : Wk p.tables e below G (T.setTop (mkF m pc Ls (.long v :: st))) := by
  subst hp
  exact Wk.pu X (fun hA hx hc t q => XS.lstoreN hA hx rfl (hb hc hd) rfl hl q) k
theorem Wk.astore (X : Hr p l e R s m args below meth c Z own bs ml n0 rt T h cells slots) {i : Nat} {v : Value} (hd : decode bs pc = .ok (.astore i, 2)) (pc' : Nat) (hp : pc + 2 = pc') (Ls' : Array Slot) (hv : v.isRef = true) (hl : storeLocals Ls i v = some Ls') (k : Wk p.tables e below G (T.setTop (mkF m pc' Ls' st))) : Wk p.tables e below G (T.setTop (mkF m pc Ls (v :: st))) := by
  subst hp
  exact Wk.pu X (fun hA hx hc t q => XS.astore hA hx rfl (hb hc hd) rfl hv hl q) k
theorem Wk.astoreN (X : Hr p l e R s m args below meth c Z own bs ml n0 rt T h cells slots) {i : Fin 4} {v : Value} (hd : decode bs pc = .ok (.astore_n i, 1)) (pc' : Nat) (hp : pc + 1 = pc') (Ls' : Array Slot) (hv : v.isRef = true) (hl : storeLocals Ls i.val v = some Ls') (k : Wk p.tables e below G (T.setTop (mkF m pc' Ls' st))) : Wk p.tables e below G (T.setTop (mkF m pc Ls (v :: st))) := by
  subst hp
  exact Wk.pu X (fun hA hx hc t q => XS.astoreN hA hx rfl (hb hc hd) rfl hv hl q) k
theorem Wk.iinc (X : Hr p l e R s m args below meth c Z own bs ml n0 rt T h cells slots) {i : Nat} {cst : Int} {v : Int32} (hd : decode bs pc = .ok (.iinc i cst, 3)) (pc' : Nat) (hp : pc + 3 = pc') (Ls' : Array Slot) (hl : Ls[i]? = some (.val (.int v))) (hl' : storeLocals Ls i (.int (v + Int32.ofInt cst)) = some Ls') (k : Wk p.tables e below G (T.setTop (mkF m pc' Ls' st))) : Wk p.tables e below G (T.setTop (mkF m pc Ls st)) := by
  subst hp
  exact Wk.pu X (fun hA hx hc t q => XS.iinc hA hx rfl (hb hc hd) hl hl' q) k
theorem Wk.iconst (X : Hr p l e R s m args below meth c Z own bs ml n0 rt T h cells slots) {i : Int} (hd : decode bs pc = .ok (.iconst i, 1)) (pc' : Nat) (hp : pc + 1 = pc') (z : Int32) (hz : Int32.ofInt i = z) (k : Wk p.tables e below G (T.setTop (mkF m pc' Ls (.int z :: st)))) : Wk p.tables e below G (T.setTop (mkF m pc Ls st)) := by
  subst hp hz
  exact Wk.pu X (fun hA hx hc t q => XS.iconst hA hx rfl (hb hc hd) q) k
theorem Wk.bipush (X : Hr p l e R s m args below meth c Z own bs ml n0 rt T h cells slots) {i : Int} (hd : decode bs pc = .ok (.bipush i, 2)) (pc' : Nat) (hp : pc + 2 = pc') (z : Int32) (hz : (Int8.ofInt i).toInt32 = z) (k : Wk p.tables e below G (T.setTop (mkF m pc' Ls (.int z :: st)))) : Wk p.tables e below G (T.setTop (mkF m pc Ls st)) := by
  subst hp hz
  exact Wk.pu X (fun hA hx hc t q => XS.bipush hA hx rfl (hb hc hd) q) k
theorem Wk.sipush (X : Hr p l e R s m args below meth c Z own bs ml n0 rt T h cells slots) {i : Int} (hd : decode bs pc = .ok (.sipush i, 3)) (pc' : Nat) (hp : pc + 3 = pc') (z : Int32) (hz : (Int16.ofInt i).toInt32 = z) (k : Wk p.tables e below G (T.setTop (mkF m pc' Ls (.int z :: st)))) : Wk p.tables e below G (T.setTop (mkF m pc Ls st)) := by
  subst hp hz
  exact Wk.pu X (fun hA hx hc t q => XS.sipush hA hx rfl (hb hc hd) q) k
theorem Wk.lconst (X : Hr p l e R s m args below meth c Z own bs ml n0 rt T h cells slots) {i : Fin 2} (hd : decode bs pc = .ok (.lconst i, 1)) (pc' : Nat) (hp : pc + 1 = pc') (z : Int64) (hz : Int64.ofNat i = z) (k : Wk p.tables e below G (T.setTop (mkF m pc' Ls (.long z :: st)))) : Wk p.tables e below G (T.setTop (mkF m pc Ls st)) := by
  subst hp hz
  exact Wk.pu X (fun hA hx hc t q => XS.lconst hA hx rfl (hb hc hd) q) k
theorem Wk.aconstNull (X : Hr p l e R s m args below meth c Z own bs ml n0 rt T h cells slots) (hd : decode bs pc = .ok (.aconst_null, 1)) (pc' : Nat) (hp : pc + 1 = pc') (k : Wk p.tables e below G (T.setTop (mkF m pc' Ls (.null :: st)))) : Wk p.tables e below G (T.setTop (mkF m pc Ls st)) := by
  subst hp
  exact Wk.pu X (fun hA hx hc t q => XS.aconstNull hA hx rfl (hb hc hd) q) k
theorem Wk.iadd (X : Hr p l e R s m args below meth c Z own bs ml n0 rt T h cells slots) {x y : Int32} (hd : decode bs pc = .ok (.iadd, 1)) (pc' : Nat) (hp : pc + 1 = pc') (k : Wk p.tables e below G (T.setTop (mkF m pc' Ls (.int (x + y) :: st)))) : Wk p.tables e below G (T.setTop (mkF m pc Ls (.int y :: .int x :: st))) := by
  subst hp
  exact Wk.pu X (fun hA hx hc t q => XS.iadd hA hx rfl (hb hc hd) rfl q) k
theorem Wk.isub (X : Hr p l e R s m args below meth c Z own bs ml n0 rt T h cells slots) {x y : Int32} (hd : decode bs pc = .ok (.isub, 1)) (pc' : Nat) (hp : pc + 1 = pc') (k : Wk p.tables e below G (T.setTop (mkF m pc' Ls (.int (x - y) :: st)))) : Wk p.tables e below G (T.setTop (mkF m pc Ls (.int y :: .int x :: st))) := by
  subst hp
  exact Wk.pu X (fun hA hx hc t q => XS.isub hA hx rfl (hb hc hd) rfl q) k
theorem Wk.imul (X : Hr p l e R s m args below meth c Z own bs ml n0 rt T h cells slots) {x y : Int32} (hd : decode bs pc = .ok (.imul, 1)) (pc' : Nat) (hp : pc + 1 = pc') (k : Wk p.tables e below G (T.setTop (mkF m pc' Ls (.int (x * y) :: st)))) : Wk p.tables e below G (T.setTop (mkF m pc Ls (.int y :: .int x :: st))) := by
  subst hp
  exact Wk.pu X (fun hA hx hc t q => XS.imul hA hx rfl (hb hc hd) rfl q) k
theorem Wk.iand (X : Hr p l e R s m args below meth c Z own bs ml n0 rt T h cells slots) {x y : Int32} (hd : decode bs pc = .ok (.iand, 1)) (pc' : Nat) (hp : pc + 1 = pc') (k : Wk p.tables e below G (T.setTop (mkF m pc' Ls (.int (x &&& y) :: st)))) : Wk p.tables e below G (T.setTop (mkF m pc Ls (.int y :: .int x :: st))) := by
  subst hp
  exact Wk.pu X (fun hA hx hc t q => XS.iand hA hx rfl (hb hc hd) rfl q) k
theorem Wk.ior (X : Hr p l e R s m args below meth c Z own bs ml n0 rt T h cells slots) {x y : Int32} (hd : decode bs pc = .ok (.ior, 1)) (pc' : Nat) (hp : pc + 1 = pc') (k : Wk p.tables e below G (T.setTop (mkF m pc' Ls (.int (x ||| y) :: st)))) : Wk p.tables e below G (T.setTop (mkF m pc Ls (.int y :: .int x :: st))) := by
  subst hp
  exact Wk.pu X (fun hA hx hc t q => XS.ior hA hx rfl (hb hc hd) rfl q) k
theorem Wk.ixor (X : Hr p l e R s m args below meth c Z own bs ml n0 rt T h cells slots) {x y : Int32} (hd : decode bs pc = .ok (.ixor, 1)) (pc' : Nat) (hp : pc + 1 = pc') (k : Wk p.tables e below G (T.setTop (mkF m pc' Ls (.int (x ^^^ y) :: st)))) : Wk p.tables e below G (T.setTop (mkF m pc Ls (.int y :: .int x :: st))) := by
  subst hp
  exact Wk.pu X (fun hA hx hc t q => XS.ixor hA hx rfl (hb hc hd) rfl q) k
theorem Wk.ishl (X : Hr p l e R s m args below meth c Z own bs ml n0 rt T h cells slots) {x y : Int32} (hd : decode bs pc = .ok (.ishl, 1)) (pc' : Nat) (hp : pc + 1 = pc') (k : Wk p.tables e below G (T.setTop (mkF m pc' Ls (.int (x <<< (y &&& 31)) :: st)))) : Wk p.tables e below G (T.setTop (mkF m pc Ls (.int y :: .int x :: st))) := by
  subst hp
  exact Wk.pu X (fun hA hx hc t q => XS.ishl hA hx rfl (hb hc hd) rfl q) k
theorem Wk.ishr (X : Hr p l e R s m args below meth c Z own bs ml n0 rt T h cells slots) {x y : Int32} (hd : decode bs pc = .ok (.ishr, 1)) (pc' : Nat) (hp : pc + 1 = pc') (k : Wk p.tables e below G (T.setTop (mkF m pc' Ls (.int (x >>> (y &&& 31)) :: st)))) : Wk p.tables e below G (T.setTop (mkF m pc Ls (.int y :: .int x :: st))) := by
  subst hp
  exact Wk.pu X (fun hA hx hc t q => XS.ishr hA hx rfl (hb hc hd) rfl q) k
theorem Wk.iushr (X : Hr p l e R s m args below meth c Z own bs ml n0 rt T h cells slots) {x y : Int32} (hd : decode bs pc = .ok (.iushr, 1)) (pc' : Nat) (hp : pc + 1 = pc') (k : Wk p.tables e below G (T.setTop (mkF m pc' Ls (.int ((x.toUInt32 >>> (y &&& 31).toUInt32).toInt32) :: st)))) : Wk p.tables e below G (T.setTop (mkF m pc Ls (.int y :: .int x :: st))) := by
  subst hp
  exact Wk.pu X (fun hA hx hc t q => XS.iushr hA hx rfl (hb hc hd) rfl q) k
theorem Wk.ladd (X : Hr p l e R s m args below meth c Z own bs ml n0 rt T h cells slots) {x y : Int64} (hd : decode bs pc = .ok (.ladd, 1)) (pc' : Nat) (hp : pc + 1 = pc') (k : Wk p.tables e below G (T.setTop (mkF m pc' Ls (.long (x + y) :: st)))) : Wk p.tables e below G (T.setTop (mkF m pc Ls (.long y :: .long x :: st))) := by
  subst hp
  exact Wk.pu X (fun hA hx hc t q => XS.ladd hA hx rfl (hb hc hd) rfl q) k
theorem Wk.lsub (X : Hr p l e R s m args below meth c Z own bs ml n0 rt T h cells slots) {x y : Int64} (hd : decode bs pc = .ok (.lsub, 1)) (pc' : Nat) (hp : pc + 1 = pc') (k : Wk p.tables e below G (T.setTop (mkF m pc' Ls (.long (x - y) :: st)))) : Wk p.tables e below G (T.setTop (mkF m pc Ls (.long y :: .long x :: st))) := by
  subst hp
  exact Wk.pu X (fun hA hx hc t q => XS.lsub hA hx rfl (hb hc hd) rfl q) k
theorem Wk.lmul (X : Hr p l e R s m args below meth c Z own bs ml n0 rt T h cells slots) {x y : Int64} (hd : decode bs pc = .ok (.lmul, 1)) (pc' : Nat) (hp : pc + 1 = pc') (k : Wk p.tables e below G (T.setTop (mkF m pc' Ls (.long (x * y) :: st)))) : Wk p.tables e below G (T.setTop (mkF m pc Ls (.long y :: .long x :: st))) := by
  subst hp
  exact Wk.pu X (fun hA hx hc t q => XS.lmul hA hx rfl (hb hc hd) rfl q) k
theorem Wk.land (X : Hr p l e R s m args below meth c Z own bs ml n0 rt T h cells slots) {x y : Int64} (hd : decode bs pc = .ok (.land, 1)) (pc' : Nat) (hp : pc + 1 = pc') (k : Wk p.tables e below G (T.setTop (mkF m pc' Ls (.long (x &&& y) :: st)))) : Wk p.tables e below G (T.setTop (mkF m pc Ls (.long y :: .long x :: st))) := by
  subst hp
  exact Wk.pu X (fun hA hx hc t q => XS.land hA hx rfl (hb hc hd) rfl q) k
theorem Wk.lor (X : Hr p l e R s m args below meth c Z own bs ml n0 rt T h cells slots) {x y : Int64} (hd : decode bs pc = .ok (.lor, 1)) (pc' : Nat) (hp : pc + 1 = pc') (k : Wk p.tables e below G (T.setTop (mkF m pc' Ls (.long (x ||| y) :: st)))) : Wk p.tables e below G (T.setTop (mkF m pc Ls (.long y :: .long x :: st))) := by
  subst hp
  exact Wk.pu X (fun hA hx hc t q => XS.lor hA hx rfl (hb hc hd) rfl q) k
theorem Wk.lxor (X : Hr p l e R s m args below meth c Z own bs ml n0 rt T h cells slots) {x y : Int64} (hd : decode bs pc = .ok (.lxor, 1)) (pc' : Nat) (hp : pc + 1 = pc') (k : Wk p.tables e below G (T.setTop (mkF m pc' Ls (.long (x ^^^ y) :: st)))) : Wk p.tables e below G (T.setTop (mkF m pc Ls (.long y :: .long x :: st))) := by
  subst hp
  exact Wk.pu X (fun hA hx hc t q => XS.lxor hA hx rfl (hb hc hd) rfl q) k
theorem Wk.lshl (X : Hr p l e R s m args below meth c Z own bs ml n0 rt T h cells slots) {x : Int64} {y : Int32} (hd : decode bs pc = .ok (.lshl, 1)) (pc' : Nat) (hp : pc + 1 = pc') (k : Wk p.tables e below G (T.setTop (mkF m pc' Ls (.long (x <<< (y &&& 0x3f).toInt64) :: st)))) : Wk p.tables e below G (T.setTop (mkF m pc Ls (.int y :: .long x :: st))) := by
  subst hp
  exact Wk.pu X (fun hA hx hc t q => XS.lshl hA hx rfl (hb hc hd) rfl q) k
theorem Wk.lshr (X : Hr p l e R s m args below meth c Z own bs ml n0 rt T h cells slots) {x : Int64} {y : Int32} (hd : decode bs pc = .ok (.lshr, 1)) (pc' : Nat) (hp : pc + 1 = pc') (k : Wk p.tables e below G (T.setTop (mkF m pc' Ls (.long (x >>> (y &&& 0x3f).toInt64) :: st)))) : Wk p.tables e below G (T.setTop (mkF m pc Ls (.int y :: .long x :: st))) := by
  subst hp
  exact Wk.pu X (fun hA hx hc t q => XS.lshr hA hx rfl (hb hc hd) rfl q) k
theorem Wk.lushr (X : Hr p l e R s m args below meth c Z own bs ml n0 rt T h cells slots) {x : Int64} {y : Int32} (hd : decode bs pc = .ok (.lushr, 1)) (pc' : Nat) (hp : pc + 1 = pc') (k : Wk p.tables e below G (T.setTop (mkF m pc' Ls (.long ((x.toUInt64 >>> (y &&& 0x3f).toInt64.toUInt64).toInt64) :: st)))) : Wk p.tables e below G (T.setTop (mkF m pc Ls (.int y :: .long x :: st))) := by
  subst hp
  exact Wk.pu X (fun hA hx hc t q => XS.lushr hA hx rfl (hb hc hd) rfl q) k
theorem Wk.ineg (X : Hr p l e R s m args below meth c Z own bs ml n0 rt T h cells slots) {x : Int32} (hd : decode bs pc = .ok (.ineg, 1)) (pc' : Nat) (hp : pc + 1 = pc') (k : Wk p.tables e below G (T.setTop (mkF m pc' Ls (.int (-x) :: st)))) : Wk p.tables e below G (T.setTop (mkF m pc Ls (.int x :: st))) := by
  subst hp
  exact Wk.pu X (fun hA hx hc t q => XS.ineg hA hx rfl (hb hc hd) rfl q) k
theorem Wk.i2b (X : Hr p l e R s m args below meth c Z own bs ml n0 rt T h cells slots) {x : Int32} (hd : decode bs pc = .ok (.i2b, 1)) (pc' : Nat) (hp : pc + 1 = pc') (k : Wk p.tables e below G (T.setTop (mkF m pc' Ls (.int (x.toInt8.toInt32) :: st)))) : Wk p.tables e below G (T.setTop (mkF m pc Ls (.int x :: st))) := by
  subst hp
  exact Wk.pu X (fun hA hx hc t q => XS.i2b hA hx rfl (hb hc hd) rfl q) k
theorem Wk.i2c (X : Hr p l e R s m args below meth c Z own bs ml n0 rt T h cells slots) {x : Int32} (hd : decode bs pc = .ok (.i2c, 1)) (pc' : Nat) (hp : pc + 1 = pc') (k : Wk p.tables e below G (T.setTop (mkF m pc' Ls (.int (x.toUInt32.toUInt16.toUInt32.toInt32) :: st)))) : Wk p.tables e below G (T.setTop (mkF m pc Ls (.int x :: st))) := by
  subst hp
  exact Wk.pu X (fun hA hx hc t q => XS.i2c hA hx rfl (hb hc hd) rfl q) k
theorem Wk.i2s (X : Hr p l e R s m args below meth c Z own bs ml n0 rt T h cells slots) {x : Int32} (hd : decode bs pc = .ok (.i2s, 1)) (pc' : Nat) (hp : pc + 1 = pc') (k : Wk p.tables e below G (T.setTop (mkF m pc' Ls (.int (x.toInt16.toInt32) :: st)))) : Wk p.tables e below G (T.setTop (mkF m pc Ls (.int x :: st))) := by
  subst hp
  exact Wk.pu X (fun hA hx hc t q => XS.i2s hA hx rfl (hb hc hd) rfl q) k
theorem Wk.i2l (X : Hr p l e R s m args below meth c Z own bs ml n0 rt T h cells slots) {x : Int32} (hd : decode bs pc = .ok (.i2l, 1)) (pc' : Nat) (hp : pc + 1 = pc') (k : Wk p.tables e below G (T.setTop (mkF m pc' Ls (.long (x.toInt64) :: st)))) : Wk p.tables e below G (T.setTop (mkF m pc Ls (.int x :: st))) := by
  subst hp
  exact Wk.pu X (fun hA hx hc t q => XS.i2l hA hx rfl (hb hc hd) rfl q) k
theorem Wk.l2i (X : Hr p l e R s m args below meth c Z own bs ml n0 rt T h cells slots) {x : Int64} (hd : decode bs pc = .ok (.l2i, 1)) (pc' : Nat) (hp : pc + 1 = pc') (k : Wk p.tables e below G (T.setTop (mkF m pc' Ls (.int (x.toInt32) :: st)))) : Wk p.tables e below G (T.setTop (mkF m pc Ls (.long x :: st))) := by
  subst hp
  exact Wk.pu X (fun hA hx hc t q => XS.l2i hA hx rfl (hb hc hd) rfl q) k
theorem Wk.lneg (X : Hr p l e R s m args below meth c Z own bs ml n0 rt T h cells slots) {x : Int64} (hd : decode bs pc = .ok (.lneg, 1)) (pc' : Nat) (hp : pc + 1 = pc') (k : Wk p.tables e below G (T.setTop (mkF m pc' Ls (.long (-x) :: st)))) : Wk p.tables e below G (T.setTop (mkF m pc Ls (.long x :: st))) := by
  subst hp
  exact Wk.pu X (fun hA hx hc t q => XS.lneg hA hx rfl (hb hc hd) rfl q) k
theorem Wk.lcmp (X : Hr p l e R s m args below meth c Z own bs ml n0 rt T h cells slots) {x y : Int64} (hd : decode bs pc = .ok (.lcmp, 1)) (pc' : Nat) (hp : pc + 1 = pc') (k : Wk p.tables e below G (T.setTop (mkF m pc' Ls (.int (if x > y then 1 else if x = y then 0 else -1) :: st)))) : Wk p.tables e below G (T.setTop (mkF m pc Ls (.long y :: .long x :: st))) := by
  subst hp
  exact Wk.pu X (fun hA hx hc t q => XS.lcmp hA hx rfl (hb hc hd) rfl q) k
theorem Wk.dup (X : Hr p l e R s m args below meth c Z own bs ml n0 rt T h cells slots) {v : Value} (hd : decode bs pc = .ok (.dup, 1)) (pc' : Nat) (hp : pc + 1 = pc') (hv : v.category = 1) (k : Wk p.tables e below G (T.setTop (mkF m pc' Ls (v :: v :: st)))) : Wk p.tables e below G (T.setTop (mkF m pc Ls (v :: st))) := by
  subst hp
  exact Wk.pu X (fun hA hx hc t q => XS.dup hA hx rfl (hb hc hd) rfl hv q) k
theorem Wk.dupX1 (X : Hr p l e R s m args below meth c Z own bs ml n0 rt T h cells slots) {v w : Value} (hd : decode bs pc = .ok (.dup_x1, 1)) (pc' : Nat) (hp : pc + 1 = pc') (hv : v.category = 1) (hw : w.category = 1) (k : Wk p.tables e below G (T.setTop (mkF m pc' Ls (v :: w :: v :: st)))) : Wk p.tables e below G (T.setTop (mkF m pc Ls (v :: w :: st))) := by
  subst hp
  exact Wk.pu X (fun hA hx hc t q => XS.dupX1 hA hx rfl (hb hc hd) rfl hv hw q) k
theorem Wk.pop (X : Hr p l e R s m args below meth c Z own bs ml n0 rt T h cells slots) {v : Value} (hd : decode bs pc = .ok (.pop, 1)) (pc' : Nat) (hp : pc + 1 = pc') (hv : v.category = 1) (k : Wk p.tables e below G (T.setTop (mkF m pc' Ls st))) : Wk p.tables e below G (T.setTop (mkF m pc Ls (v :: st))) := by
  subst hp
  exact Wk.pu X (fun hA hx hc t q => XS.pop hA hx rfl (hb hc hd) rfl hv q) k
theorem Wk.irem (X : Hr p l e R s m args below meth c Z own bs ml n0 rt T h cells slots) {x y : Int32} (hd : decode bs pc = .ok (.irem, 1)) (pc' : Nat) (hp : pc + 1 = pc') (hy : y ≠ 0) (k : Wk p.tables e below G (T.setTop (mkF m pc' Ls (.int (x % y) :: st)))) : Wk p.tables e below G (T.setTop (mkF m pc Ls (.int y :: .int x :: st))) := by
  subst hp
  obtain ⟨⟨locs, Y, N⟩, hx, hc, -⟩ := X
  exact Wk.go (fun t q => iremM (g := mkF m pc Ls (.int y :: .int x :: st)) Y hx rfl (hb hc hd) rfl hy q) k
theorem Wk.idiv (X : Hr p l e R s m args below meth c Z own bs ml n0 rt T h cells slots) {x y : Int32} (hd : decode bs pc = .ok (.idiv, 1)) (pc' : Nat) (hp : pc + 1 = pc') (hy : y ≠ 0) (k : Wk p.tables e below G (T.setTop (mkF m pc' Ls (.int (x / y) :: st)))) : Wk p.tables e below G (T.setTop (mkF m pc Ls (.int y :: .int x :: st))) := by
  subst hp
  exact Wk.pu X (fun hA hx hc t q => XS.idiv hA hx rfl (hb hc hd) rfl hy q) k
theorem Wk.goto (X : Hr p l e R s m args below meth c Z own bs ml n0 rt T h cells slots) {o : Int} (hd : decode bs pc = .ok (.goto o, 3)) (pc' : Nat) (hp : 0 ≤ (pc : Int) + o ∧ ((pc : Int) + o).toNat = pc') (k : Wk p.tables e below G (T.setTop (mkF m pc' Ls st))) : Wk p.tables e below G (T.setTop (mkF m pc Ls st)) :=
  Wk.pu X (fun hA hx hc t q => XS.goto hA hx rfl (pc0 := pc) (pc' := pc') rfl (hb hc hd) hp.1 hp.2 q) k
theorem Wk.icmpT (X : Hr p l e R s m args below meth c Z own bs ml n0 rt T h cells slots) {cd : ClassFile.Cond} {o : Int} {x y : Int32} (hd : decode bs pc = .ok (.if_icmp cd o, 3)) (pt : Nat) (ht : 0 ≤ (pc : Int) + o ∧ ((pc : Int) + o).toNat = pt) (q : cmpT cd x y) (k : Wk p.tables e below G (T.setTop (mkF m pt Ls st))) : Wk p.tables e below G (T.setTop (mkF m pc Ls (.int y :: .int x :: st))) :=
  Wk.pu X (fun hA hx hc t z => XS.icmpYes hA hx rfl (pc0 := pc) (pc' := pt) rfl (hb hc hd) rfl (cmp_t q) ht.1 ht.2 z) k
theorem Wk.icmpF (X : Hr p l e R s m args below meth c Z own bs ml n0 rt T h cells slots) {cd : ClassFile.Cond} {o : Int} {x y : Int32} (hd : decode bs pc = .ok (.if_icmp cd o, 3)) (pf : Nat) (hf : pc + 3 = pf) (q : cmpF cd x y) (k : Wk p.tables e below G (T.setTop (mkF m pf Ls st))) : Wk p.tables e below G (T.setTop (mkF m pc Ls (.int y :: .int x :: st))) := by
  subst hf
  exact Wk.pu X (fun hA hx hc t z => XS.icmpNo hA hx rfl (hb hc hd) rfl (cmp_f q) z) k
theorem Wk.icmp (X : Hr p l e R s m args below meth c Z own bs ml n0 rt T h cells slots) {cd : ClassFile.Cond} {o : Int} {x y : Int32} (hd : decode bs pc = .ok (.if_icmp cd o, 3)) (pt pf : Nat) (ht : 0 ≤ (pc : Int) + o ∧ ((pc : Int) + o).toNat = pt) (hf : pc + 3 = pf) (kt : cmpT cd x y → Wk p.tables e below G (T.setTop (mkF m pt Ls st))) (kf : cmpF cd x y → Wk p.tables e below G (T.setTop (mkF m pf Ls st))) : Wk p.tables e below G (T.setTop (mkF m pc Ls (.int y :: .int x :: st))) :=
  (cmp_or cd x y).elim (fun q => Wk.icmpT X hd pt ht q (kt q)) (fun q => Wk.icmpF X hd pf hf q (kf q))
theorem Wk.ifcT (X : Hr p l e R s m args below meth c Z own bs ml n0 rt T h cells slots) {cd : ClassFile.Cond} {o : Int} {x : Int32} (hd : decode bs pc = .ok (.ifCond cd o, 3)) (pt : Nat) (ht : 0 ≤ (pc : Int) + o ∧ ((pc : Int) + o).toNat = pt) (q : cmpT cd x 0) (k : Wk p.tables e below G (T.setTop (mkF m pt Ls st))) : Wk p.tables e below G (T.setTop (mkF m pc Ls (.int x :: st))) :=
  Wk.pu X (fun hA hx hc t z => XS.ifYes hA hx rfl (pc0 := pc) (pc' := pt) rfl (hb hc hd) rfl ((if0 _ _).trans (cmp_t q)) ht.1 ht.2 z) k
theorem Wk.ifcF (X : Hr p l e R s m args below meth c Z own bs ml n0 rt T h cells slots) {cd : ClassFile.Cond} {o : Int} {x : Int32} (hd : decode bs pc = .ok (.ifCond cd o, 3)) (pf : Nat) (hf : pc + 3 = pf) (q : cmpF cd x 0) (k : Wk p.tables e below G (T.setTop (mkF m pf Ls st))) : Wk p.tables e below G (T.setTop (mkF m pc Ls (.int x :: st))) := by
  subst hf
  exact Wk.pu X (fun hA hx hc t z => XS.ifNo hA hx rfl (hb hc hd) rfl ((if0 _ _).trans (cmp_f q)) z) k
theorem Wk.ifc (X : Hr p l e R s m args below meth c Z own bs ml n0 rt T h cells slots) {cd : ClassFile.Cond} {o : Int} {x : Int32} (hd : decode bs pc = .ok (.ifCond cd o, 3)) (pt pf : Nat) (ht : 0 ≤ (pc : Int) + o ∧ ((pc : Int) + o).toNat = pt) (hf : pc + 3 = pf) (kt : cmpT cd x 0 → Wk p.tables e below G (T.setTop (mkF m pt Ls st))) (kf : cmpF cd x 0 → Wk p.tables e below G (T.setTop (mkF m pf Ls st))) : Wk p.tables e below G (T.setTop (mkF m pc Ls (.int x :: st))) :=
  (cmp_or cd x 0).elim (fun q => Wk.ifcT X hd pt ht q (kt q)) (fun q => Wk.ifcF X hd pf hf q (kf q))
theorem Wk.ifnullT (X : Hr p l e R s m args below meth c Z own bs ml n0 rt T h cells slots) {o : Int} (hd : decode bs pc = .ok (.ifnull o, 3)) (pt : Nat) (ht : 0 ≤ (pc : Int) + o ∧ ((pc : Int) + o).toNat = pt) (k : Wk p.tables e below G (T.setTop (mkF m pt Ls st))) : Wk p.tables e below G (T.setTop (mkF m pc Ls (.null :: st))) :=
  Wk.pu X (fun hA hx hc t z => XS.ifnullYes hA hx rfl (pc0 := pc) (pc' := pt) rfl (hb hc hd) rfl ht.1 ht.2 z) k
theorem Wk.ifnullF (X : Hr p l e R s m args below meth c Z own bs ml n0 rt T h cells slots) {o : Int} {b : Addr} (hd : decode bs pc = .ok (.ifnull o, 3)) (pf : Nat) (hf : pc + 3 = pf) (k : Wk p.tables e below G (T.setTop (mkF m pf Ls st))) : Wk p.tables e below G (T.setTop (mkF m pc Ls (.ref b :: st))) := by
  subst hf
  exact Wk.pu X (fun hA hx hc t z => XS.ifnullNo hA hx rfl (hb hc hd) rfl z) k
theorem Wk.ifnonnullT (X : Hr p l e R s m args below meth c Z own bs ml n0 rt T h cells slots) {o : Int} {b : Addr} (hd : decode bs pc = .ok (.ifnonnull o, 3)) (pt : Nat) (ht : 0 ≤ (pc : Int) + o ∧ ((pc : Int) + o).toNat = pt) (k : Wk p.tables e below G (T.setTop (mkF m pt Ls st))) : Wk p.tables e below G (T.setTop (mkF m pc Ls (.ref b :: st))) :=
  Wk.pu X (fun hA hx hc t z => XS.ifnonnullYes hA hx rfl (pc0 := pc) (pc' := pt) rfl (hb hc hd) rfl ht.1 ht.2 z) k
theorem Wk.ifnonnullF (X : Hr p l e R s m args below meth c Z own bs ml n0 rt T h cells slots) {o : Int} (hd : decode bs pc = .ok (.ifnonnull o, 3)) (pf : Nat) (hf : pc + 3 = pf) (k : Wk p.tables e below G (T.setTop (mkF m pf Ls st))) : Wk p.tables e below G (T.setTop (mkF m pc Ls (.null :: st))) := by
  subst hf
  exact Wk.pu X (fun hA hx hc t z => XS.ifnonnullNo hA hx rfl (hb hc hd) rfl z) k
theorem Wk.acmpT (X : Hr p l e R s m args below meth c Z own bs ml n0 rt T h cells slots) {cd : ClassFile.ACond} {o : Int} {a b : Addr} (hd : decode bs pc = .ok (.if_acmp cd o, 3)) (pt : Nat) (ht : 0 ≤ (pc : Int) + o ∧ ((pc : Int) + o).toNat = pt) (q : if_acmp.holds cd (some a) (some b) = true) (k : Wk p.tables e below G (T.setTop (mkF m pt Ls st))) : Wk p.tables e below G (T.setTop (mkF m pc Ls (.ref b :: .ref a :: st))) :=
  Wk.pu X (fun hA hx hc t z => XS.acmpYes hA hx rfl (pc0 := pc) (pc' := pt) rfl (hb hc hd) rfl q ht.1 ht.2 z) k
theorem Wk.acmpF (X : Hr p l e R s m args below meth c Z own bs ml n0 rt T h cells slots) {cd : ClassFile.ACond} {o : Int} {a b : Addr} (hd : decode bs pc = .ok (.if_acmp cd o, 3)) (pf : Nat) (hf : pc + 3 = pf) (q : if_acmp.holds cd (some a) (some b) = false) (k : Wk p.tables e below G (T.setTop (mkF m pf Ls st))) : Wk p.tables e below G (T.setTop (mkF m pc Ls (.ref b :: .ref a :: st))) := by
  subst hf
  exact Wk.pu X (fun hA hx hc t z => XS.acmpNo hA hx rfl (hb hc hd) rfl q z) k
theorem Wk.ldcInt (X : Hr p l e R s m args below meth c Z own bs ml n0 rt T h cells slots) {i : Nat} {v : Int32} (w : (Cond.constant own i v).before a0 Z = true) (hd : decode bs pc = .ok (.ldc i, 2)) (pc' : Nat) (hp : pc + 2 = pc') (k : Wk p.tables e below G (T.setTop (mkF m pc' Ls (.int v :: st)))) : Wk p.tables e below G (T.setTop (mkF m pc Ls st)) := by
  subst hp
  obtain ⟨⟨locs, Y, N⟩, hx, hc, -, hZ, ho, -⟩ := X
  exact Wk.go (fun t q => Y.ldcInt hx ho (mvT hZ w) (g := mkF m pc Ls st) rfl (hb hc hd) t q) k
theorem Wk.ldc2Long (X : Hr p l e R s m args below meth c Z own bs ml n0 rt T h cells slots) {i : Nat} {v : Int64} (w : (Cond.constantLong own i v).before a0 Z = true) (hd : decode bs pc = .ok (.ldc2_w i, 3)) (pc' : Nat) (hp : pc + 3 = pc') (k : Wk p.tables e below G (T.setTop (mkF m pc' Ls (.long v :: st)))) : Wk p.tables e below G (T.setTop (mkF m pc Ls st)) := by
  subst hp
  obtain ⟨⟨locs, Y, N⟩, hx, hc, -, hZ, ho, -⟩ := X
  exact Wk.go (fun t q => Y.ldc2Long hx ho (mvT hZ w) (g := mkF m pc Ls st) rfl (hb hc hd) t q) k
theorem Arl.at {a : Addr} {ty : FieldType} {us : List Value} {j : Int32} {i : Nat} {v : Value} (A : Arl Z h a ty us) (hj : j.toInt = i) (hv : us[i]? = some v) : ∃ cl : Cell, Arr Z h a cl ty ∧ ¬ (j < 0 ∨ cl.slots.size ≤ j.toNatClampNeg) ∧ cl.slots[j.toNatClampNeg]? = some v := by
  obtain ⟨cl, A, r1, r2⟩ := A
  have hi : i < us.length := (List.getElem?_eq_some_iff.mp hv).1
  have q := ix_in (n := cl.slots.size) hj (by rw [r1]; simpa using hi)
  exact ⟨cl, A, q.1, by rw [q.2, r1]; simpa using hv⟩
theorem Wk.iaload (X : Hr p l e R s m args below meth c Z own bs ml n0 rt T h cells slots) {a : Addr} {us : List Value} {j : Int32} {v : Value} (A : Arl Z h a .int us) (i : Nat) (hj : j.toInt = i) (hv : us[i]? = some v) (hd : decode bs pc = .ok (.iaload, 1)) (pc' : Nat) (hp : pc + 1 = pc') (k : Wk p.tables e below G (T.setTop (mkF m pc' Ls (v :: st)))) : Wk p.tables e below G (T.setTop (mkF m pc Ls (.int j :: .ref a :: st))) := by
  subst hp
  obtain ⟨⟨locs, Y, N⟩, hx, hc, -, hZ, ho, -, -, eT⟩ := X
  obtain ⟨cl, A, q1, q2⟩ := A.at hj hv
  exact Wk.go (fun t q => Y.iaload hx (by rw [eT]; exact A.1) (State.isArrayOf_alike hZ.alike A.2.1) A.2.2 q1 q2 (g := mkF m pc Ls (.int j :: .ref a :: st)) rfl rfl (hb hc hd) t q) k
theorem Wk.laload (X : Hr p l e R s m args below meth c Z own bs ml n0 rt T h cells slots) {a : Addr} {us : List Value} {j : Int32} {v : Value} (A : Arl Z h a .long us) (i : Nat) (hj : j.toInt = i) (hv : us[i]? = some v) (hd : decode bs pc = .ok (.laload, 1)) (pc' : Nat) (hp : pc + 1 = pc') (k : Wk p.tables e below G (T.setTop (mkF m pc' Ls (v :: st)))) : Wk p.tables e below G (T.setTop (mkF m pc Ls (.int j :: .ref a :: st))) := by
  subst hp
  obtain ⟨⟨locs, Y, N⟩, hx, hc, -, hZ, ho, -, -, eT⟩ := X
  obtain ⟨cl, A, q1, q2⟩ := A.at hj hv
  exact Wk.go (fun t q => Y.laload hx (by rw [eT]; exact A.1) (State.isArrayOf_alike hZ.alike A.2.1) A.2.2 q1 q2 (g := mkF m pc Ls (.int j :: .ref a :: st)) rfl rfl (hb hc hd) t q) k
theorem Wk.baload (X : Hr p l e R s m args below meth c Z own bs ml n0 rt T h cells slots) {a : Addr} {us : List Value} {j : Int32} {v : Value} (A : Arl Z h a .byte us) (i : Nat) (hj : j.toInt = i) (hv : us[i]? = some v) (hd : decode bs pc = .ok (.baload, 1)) (pc' : Nat) (hp : pc + 1 = pc') (k : Wk p.tables e below G (T.setTop (mkF m pc' Ls (v :: st)))) : Wk p.tables e below G (T.setTop (mkF m pc Ls (.int j :: .ref a :: st))) := by
  subst hp
  obtain ⟨⟨locs, Y, N⟩, hx, hc, -, hZ, ho, -, -, eT⟩ := X
  obtain ⟨cl, A, q1, q2⟩ := A.at hj hv
  exact Wk.go (fun t q => Y.baloadBytes hx (by rw [eT]; exact A.1) (State.isArrayOf_alike hZ.alike A.2.1) A.2.2 q1 q2 (g := mkF m pc Ls (.int j :: .ref a :: st)) rfl rfl (hb hc hd) t q) k
theorem Wk.arraylength (X : Hr p l e R s m args below meth c Z own bs ml n0 rt T h cells slots) {a : Addr} {ty : FieldType} {us : List Value} (A : Arl Z h a ty us) (hd : decode bs pc = .ok (.arraylength, 1)) (pc' : Nat) (hp : pc + 1 = pc') (z : Int32) (hz : us.length.toInt32 = z) (k : Wk p.tables e below G (T.setTop (mkF m pc' Ls (.int z :: st)))) : Wk p.tables e below G (T.setTop (mkF m pc Ls (.ref a :: st))) := by
  subst hp hz
  obtain ⟨⟨locs, Y, N⟩, hx, hc, -, hZ, ho, -, -, eT⟩ := X
  obtain ⟨cl, A, r1, r2⟩ := A
  have hs : cl.slots.size = us.length := by rw [r1]; simp
  rw [← hs] at k
  exact Wk.go (fun t q => Y.arraylength hx (by rw [eT]; exact A.1) (State.isArrayOf_alike hZ.alike A.2.1) (g := mkF m pc Ls (.ref a :: st)) rfl rfl (hb hc hd) t q) k
theorem Wk.getfield (X : Hr p l e R s m args below meth c Z own bs ml n0 rt T h cells slots) {i : Nat} {R0 O n d : String} {a : Addr} {v : Value} (w : (Cond.fieldLink own i R0 n d).before a0 Z = true) (via : Via Z R0 O n d) (F : Fld Z h a O n d v) (hd : decode bs pc = .ok (.getfield i, 3)) (pc' : Nat) (hp : pc + 3 = pc')
    (k : ∀ T', Hr p l e R s m args below meth c Z own bs ml n0 rt T' h cells slots → Wk p.tables e below G (T'.setTop (mkF m pc' Ls (v :: st)))) : Wk p.tables e below G (T.setTop (mkF m pc Ls (.ref a :: st))) := by
  subst hp
  obtain ⟨⟨locs, Y, N⟩, hx, hc, hm, hZ, ho, hr, hl, eT⟩ := X
  obtain ⟨T', Y', e', q⟩ := getF Y hx hZ ho (host := "") (Or.inl w) via eT F (g := mkF m pc Ls (.ref a :: st)) rfl rfl (hb hc hd)
  exact Wk.go q (k T' ⟨⟨locs, Y', N⟩, hx, hc, hm, hZ, ho, hr, hl, e'⟩)
theorem Wk.putfield (X : Hr p l e R s m args below meth c Z own bs ml n0 rt T h cells slots) {i kk : Nat} {R0 O n d C : String} {ty : FieldType} {a : Addr} {v old : Value} (w : (Cond.fieldLink own i R0 n d).before a0 Z = true) (via : Via Z R0 O n d) (F : Fld Z h a O n d old) (E : Exa Z h a C) (L : (Cond.lays C O n d).before a0 Z = true ∨ ((Cond.laysFinal C O n d).before a0 Z = true ∧ own = O ∧ meth.name = "<init>")) (wi : (Cond.instantiable C kk).before a0 Z = true)
    (hty : parseFieldDescriptor d = some ty) (hn : narrow ty v = v) (hf : fits ty v = true) (hnew : n0 ≤ a) (hd : decode bs pc = .ok (.putfield i, 3)) (pc' : Nat) (hp : pc + 3 = pc')
    (k : ∀ T' h', Hr p l e R s m args below meth c Z own bs ml n0 rt T' h' cells slots → Wr h h' a (Jvm.RoadKit.slotOf Z O n d) v → Wk p.tables e below G (T'.setTop (mkF m pc' Ls st))) : Wk p.tables e below G (T.setTop (mkF m pc Ls (v :: .ref a :: st))) := by
  subst hp
  obtain ⟨⟨locs, Y, N⟩, hx, hc, hm, hZ, ho, hr, hl, eT⟩ := X
  obtain ⟨T', h', Y', e', W, q⟩ := putF Y hx hZ ho (host := "") (Or.inl w) via eT F E L wi hty hn hf (g := mkF m pc Ls (v :: .ref a :: st)) rfl rfl (hb hc hd)
  exact Wk.go q (k T' h' ⟨⟨_, Y', Fr.snoc Y' N hnew⟩, hx, hc, hm, hZ, ho, hr, hl, e'⟩ W)
theorem Wk.getstatic (X : Hr p l e R s m args below meth c Z own bs ml n0 rt T h cells slots) {i : Nat} {R0 O n d : String} {v : Value} (w : (Cond.fieldLink own i R0 n d).before a0 Z = true) (via : Via Z R0 O n d) (F : Sta Z h O n d v) (hd : decode bs pc = .ok (.getstatic i, 3)) (pc' : Nat) (hp : pc + 3 = pc')
    (k : ∀ T', Hr p l e R s m args below meth c Z own bs ml n0 rt T' h cells slots → Wk p.tables e below G (T'.setTop (mkF m pc' Ls (v :: st)))) : Wk p.tables e below G (T.setTop (mkF m pc Ls st)) := by
  subst hp
  obtain ⟨⟨locs, Y, N⟩, hx, hc, hm, hZ, ho, hr, hl, eT⟩ := X
  obtain ⟨T', Y', e', q⟩ := getS Y hx hZ (host := "") ho w via eT F (g := mkF m pc Ls st) rfl (hb hc hd)
  exact Wk.go q (k T' ⟨⟨locs, Y', N⟩, hx, hc, hm, hZ, ho, hr, hl, e'⟩)
theorem Wk.new (X : Hr p l e R s m args below meth c Z own bs ml n0 rt T h cells slots) {i n : Nat} {C : String} (w : (Cond.classLink own i C).before a0 Z = true) (wi : (Cond.instantiable C n).before a0 Z = true) (wz : (Cond.initialized C).before a0 Z = true) (hd : decode bs pc = .ok (.new i, 3)) (pc' : Nat) (hp : pc + 3 = pc') (hce : cells + 1 ≤ R.cells) (hsl : slots + n ≤ R.slots)
    (k : ∀ T' h' a, a = h.size → Hr p l e R s m args below meth c Z own bs ml n0 rt T' h' (cells + 1) (slots + n) → Ext h h' → Exa Z h' a C → (∀ {O nm d : String} {ty : FieldType}, Laid Z a0 C O nm d → parseFieldDescriptor d = some ty → Fld Z h' a O nm d (defaultValue ty)) → Wk p.tables e below G (T'.setTop (mkF m pc' Ls (.ref a :: st)))) : Wk p.tables e below G (T.setTop (mkF m pc Ls st)) := by
  subst hp
  obtain ⟨⟨locs, Y, N⟩, hx, hc, hm, hZ, ho, hr, hl, eT⟩ := X
  obtain ⟨T', h', Y', e', E, A, D, -, q⟩ := newO Y hx hZ ho w wi wz eT (g := mkF m pc Ls st) rfl (hb hc hd) hce hsl
  exact Wk.go q (k T' h' _ rfl ⟨⟨_, Y', N⟩, hx, hc, hm, hZ, ho, hr, hl, e'⟩ E A D)
theorem Wk.newarray (X : Hr p l e R s m args below meth c Z own bs ml n0 rt T h cells slots) {aty : ArrayType} {n : Int32} (w : (Cond.arrayClass (newarray.typeOf aty)).before a0 Z = true) (hd : decode bs pc = .ok (.newarray aty, 2)) (pc' : Nat) (hp : pc + 2 = pc') (i : Nat) (hn : n.toInt = i) (cap : Nat) (hcap : i ≤ cap) (hbig : cap * 8 ≤ 536870912) (hce : cells + 1 ≤ R.cells) (hsl : slots + cap ≤ R.slots)
    (k : ∀ T' h' a, a = h.size → Hr p l e R s m args below meth c Z own bs ml n0 rt T' h' (cells + 1) (slots + cap) → Ext h h' → Arl Z h' a (newarray.typeOf aty) (List.replicate i (defaultValue (newarray.typeOf aty))) → Wk p.tables e below G (T'.setTop (mkF m pc' Ls (.ref a :: st)))) : Wk p.tables e below G (T.setTop (mkF m pc Ls (.int n :: st))) := by
  subst hp
  obtain ⟨⟨locs, Y, N⟩, hx, hc, hm, hZ, ho, hr, hl, eT⟩ := X
  have hi : n.toNatClampNeg = i := by simp [Int32.toNatClampNeg, hn]
  have h0 : ¬ n < 0 := by rw [Int32.lt_iff_toInt_lt, hn]; simp only [Int32.reduceToInt]; omega
  obtain ⟨T', h', cA, Y', e', E, A, q⟩ := newP Y hx hZ w eT (g := mkF m pc Ls (.int n :: st)) rfl (hb hc hd) rfl h0 (cap := cap) (by rw [hi]; exact hcap) hbig hce hsl
  refine Wk.go q (k T' h' _ rfl ⟨⟨_, Y', N⟩, hx, hc, hm, hZ, ho, hr, hl, e'⟩ E ⟨_, A, ?_, by simp; omega⟩)
  simp [newA, hi]
theorem Wk.iastore (X : Hr p l e R s m args below meth c Z own bs ml n0 rt T h cells slots) {a : Addr} {us : List Value} {j v : Int32} (A : Arl Z h a .int us) (hnew : n0 ≤ a) (i : Nat) (hj : j.toInt = i) (hi : i < us.length) (hd : decode bs pc = .ok (.iastore, 1)) (pc' : Nat) (hp : pc + 1 = pc')
    (k : ∀ T' h', Hr p l e R s m args below meth c Z own bs ml n0 rt T' h' cells slots → Wr h h' a i (.int v) → Wk p.tables e below G (T'.setTop (mkF m pc' Ls st))) : Wk p.tables e below G (T.setTop (mkF m pc Ls (.int v :: .int j :: .ref a :: st))) := by
  subst hp
  obtain ⟨⟨locs, Y, N⟩, hx, hc, hm, hZ, ho, hr, hl, eT⟩ := X
  obtain ⟨cl, A, q1, -⟩ := A.at hj (List.getElem?_eq_getElem hi)
  obtain ⟨T', h', Y', e', W, q⟩ := stI Y hx hZ eT A q1 (g := mkF m pc Ls (.int v :: .int j :: .ref a :: st)) rfl rfl (hb hc hd)
  rw [(ix_in hj hi).2] at W
  exact Wk.go q (k T' h' ⟨⟨_, Y', Fr.snoc Y' N hnew⟩, hx, hc, hm, hZ, ho, hr, hl, e'⟩ W)
theorem Wk.lastore (X : Hr p l e R s m args below meth c Z own bs ml n0 rt T h cells slots) {a : Addr} {us : List Value} {j : Int32} {v : Int64} (A : Arl Z h a .long us) (hnew : n0 ≤ a) (i : Nat) (hj : j.toInt = i) (hi : i < us.length) (hd : decode bs pc = .ok (.lastore, 1)) (pc' : Nat) (hp : pc + 1 = pc')
    (k : ∀ T' h', Hr p l e R s m args below meth c Z own bs ml n0 rt T' h' cells slots → Wr h h' a i (.long v) → Wk p.tables e below G (T'.setTop (mkF m pc' Ls st))) : Wk p.tables e below G (T.setTop (mkF m pc Ls (.long v :: .int j :: .ref a :: st))) := by
  subst hp
  obtain ⟨⟨locs, Y, N⟩, hx, hc, hm, hZ, ho, hr, hl, eT⟩ := X
  obtain ⟨cl, A, q1, -⟩ := A.at hj (List.getElem?_eq_getElem hi)
  obtain ⟨T', h', Y', e', W, q⟩ := stJ Y hx hZ eT A q1 (g := mkF m pc Ls (.long v :: .int j :: .ref a :: st)) rfl rfl (hb hc hd)
  rw [(ix_in hj hi).2] at W
  exact Wk.go q (k T' h' ⟨⟨_, Y', Fr.snoc Y' N hnew⟩, hx, hc, hm, hZ, ho, hr, hl, e'⟩ W)
theorem Wk.bastore (X : Hr p l e R s m args below meth c Z own bs ml n0 rt T h cells slots) {a : Addr} {us : List Value} {j v : Int32} (A : Arl Z h a .byte us) (hnew : n0 ≤ a) (i : Nat) (hj : j.toInt = i) (hi : i < us.length) (hd : decode bs pc = .ok (.bastore, 1)) (pc' : Nat) (hp : pc + 1 = pc')
    (k : ∀ T' h', Hr p l e R s m args below meth c Z own bs ml n0 rt T' h' cells slots → Wr h h' a i (.int v.toInt8.toInt32) → Wk p.tables e below G (T'.setTop (mkF m pc' Ls st))) : Wk p.tables e below G (T.setTop (mkF m pc Ls (.int v :: .int j :: .ref a :: st))) := by
  subst hp
  obtain ⟨⟨locs, Y, N⟩, hx, hc, hm, hZ, ho, hr, hl, eT⟩ := X
  obtain ⟨cl, A, q1, -⟩ := A.at hj (List.getElem?_eq_getElem hi)
  obtain ⟨T', h', Y', e', W, q⟩ := stB Y hx hZ eT A q1 (g := mkF m pc Ls (.int v :: .int j :: .ref a :: st)) rfl rfl (hb hc hd)
  rw [(ix_in hj hi).2] at W
  exact Wk.go q (k T' h' ⟨⟨_, Y', Fr.snoc Y' N hnew⟩, hx, hc, hm, hZ, ho, hr, hl, e'⟩ W)
theorem Wk.callS (X : Hr p l e R s m args below meth c Z own bs ml n0 rt T h cells slots) {i : Nat} {y : MethodName} {bytes : ByteArray} {maxL : Nat} {rt' : Option FieldType} {rm : Room} {as' : Array Value} {Q : Option Value → Heap → Prop} (w1 : (Cond.methodLink own i y).before a0 Z = true) (w2 : (Cond.static y).before a0 Z = true) (w3 : (Cond.initialized y.cls).before a0 Z = true) (w4 : (Cond.code y bytes maxL rt').before a0 Z = true) (hM : Con l y bytes maxL rt' rm [] Z as' h n0 Q)
    (hy : y.cls ≠ "java/lang/invoke/MethodHandle" ∧ y.cls ≠ "java/lang/invoke/VarHandle") {ps : List FieldType} {r : Option FieldType} (hds : parseMethodDescriptor y.desc = some ⟨ps, r⟩) (argsL rest : List Value) (hlen : argsL.length = ps.length) (hst : st = argsL.reverse ++ rest) (has : argsL.toArray = as') (hls : Ls.size = ml) (W : Nat) (hW : (rest.map fun v => v.category).sum ≤ W) (hfr : rm.frames + 1 ≤ R.frames) (hlo : W + (maxL + 11) + rm.locals ≤ R.locals) (hce : cells + rm.cells ≤ R.cells) (hsl : slots + rm.slots ≤ R.slots) (cells' slots' : Nat) (hc' : cells + rm.cells = cells') (hs' : slots + rm.slots = slots')
    (hd : decode bs pc = .ok (.invokestatic i, 3)) (pc' : Nat) (hp : pc + 3 = pc')
    (k : ∀ v T' h', Hr p l e R s m args below meth c Z own bs ml n0 rt T' h' cells' slots' → Q v h' → Wk p.tables e below G (T'.setTop (mkF m pc' Ls (v.toList ++ rest)))) : Wk p.tables e below G (T.setTop (mkF m pc Ls st)) := by
  subst hp hc' hs' hst has
  obtain ⟨⟨locs, Y, N⟩, hx, hc, hm, hZ, ho, hr, hl, eT⟩ := X
  obtain ⟨v, _, ⟨T1, L1, k1, n1⟩, -, Y1, ⟨Lc, hQ, l1, y1, z1⟩, q⟩ := Jvm.LawKit.callS Y hx (y := y) ho (mvT hZ w1) (mvT hZ w2) (mvT hZ w3) (mvT hZ w4) hy (backOf (W := W) (Q := fun v h L => Q v h ∧ Fr n0 L) hM hZ w4 w3 hfr hlo) (g := mkF m pc Ls (argsL.reverse ++ rest)) rfl (by rw [hm]; exact hls) (argsL := argsL) (rest := rest) (lenOf hds hlen) rfl (by show 2 * 0 + _ ≤ _; omega) (hb hc hd) (fun _ _ => ⟨rfl, eT, hce, hsl⟩)
  dsimp only [Pt.U, Pt.locs, Pt.cells, Pt.slots] at Y1 l1 y1 z1 q hQ
  subst l1 y1 z1
  exact Wk.go q (k v T1 T1.heap ⟨⟨_, Y1, Fr.app N hQ.2⟩, hx, hc, hm, hZ, ho, hr, hl, rfl⟩ hQ.1)
theorem Wk.callI (X : Hr p l e R s m args below meth c Z own bs ml n0 rt T h cells slots) {i : Nat} {y : MethodName} {bytes : ByteArray} {maxL : Nat} {rm : Room} {as' : Array Value} {a : Addr} {Q : Option Value → Heap → Prop} (hini : y.name = "<init>") (w1 : (Cond.methodLink own i y).before a0 Z = true) (w2 : (Cond.instanceMethod y).before a0 Z = true) (w3 : (Cond.initialized y.cls).before a0 Z = true) (w4 : (Cond.code y bytes maxL none).before a0 Z = true) (hM : Con l y bytes maxL none rm [] Z as' h n0 Q)
    (hy : y.cls ≠ "java/lang/invoke/MethodHandle" ∧ y.cls ≠ "java/lang/invoke/VarHandle") {ps : List FieldType} {r : Option FieldType} (hds : parseMethodDescriptor y.desc = some ⟨ps, r⟩) (argsL rest : List Value) (hlen : argsL.length = ps.length) (hst : st = argsL.reverse ++ .ref a :: rest) (has : (.ref a :: argsL).toArray = as') (hls : Ls.size = ml) (W : Nat) (hW : (rest.map fun v => v.category).sum ≤ W) (hfr : rm.frames + 1 ≤ R.frames) (hlo : W + (maxL + 11) + rm.locals ≤ R.locals) (hce : cells + rm.cells ≤ R.cells) (hsl : slots + rm.slots ≤ R.slots) (cells' slots' : Nat) (hc' : cells + rm.cells = cells') (hs' : slots + rm.slots = slots')
    (hd : decode bs pc = .ok (.invokespecial i, 3)) (pc' : Nat) (hp : pc + 3 = pc')
    (k : ∀ v T' h', Hr p l e R s m args below meth c Z own bs ml n0 rt T' h' cells' slots' → Q v h' → Wk p.tables e below G (T'.setTop (mkF m pc' Ls (v.toList ++ rest)))) : Wk p.tables e below G (T.setTop (mkF m pc Ls st)) := by
  subst hp hc' hs' hst has
  obtain ⟨⟨locs, Y, N⟩, hx, hc, hm, hZ, ho, hr, hl, eT⟩ := X
  obtain ⟨v, _, ⟨T1, L1, k1, n1⟩, -, Y1, ⟨Lc, hQ, l1, y1, z1⟩, q⟩ := Y.specialBack hx (y := y) hini ho (mvT hZ w1) (mvT hZ w2) (mvT hZ w4) hy (backOf (W := W) (Q := fun v h L => Q v h ∧ Fr n0 L) hM hZ w4 w3 hfr hlo) (g := mkF m pc Ls (argsL.reverse ++ .ref a :: rest)) rfl (by rw [hm]; exact hls) (Steps.refl _) (a := a) (argsL := argsL) (rest := rest) (lenOf hds hlen) rfl (by show 2 * 0 + _ ≤ _; omega) (hb hc hd) (fun _ _ => ⟨rfl, eT, hce, hsl⟩)
  dsimp only [Pt.U, Pt.locs, Pt.cells, Pt.slots] at Y1 l1 y1 z1 q hQ
  subst l1 y1 z1
  exact Wk.go (fun t z => q.trans z) (k v T1 T1.heap ⟨⟨_, Y1, Fr.app N hQ.2⟩, hx, hc, hm, hZ, ho, hr, hl, rfl⟩ hQ.1)
theorem Wk.callV (X : Hr p l e R s m args below meth c Z own bs ml n0 rt T h cells slots) {i : Nat} {y : MethodName} {C : String} {bytes : ByteArray} {maxL : Nat} {rt' : Option FieldType} {rm : Room} {as' : Array Value} {a : Addr} {Q : Option Value → Heap → Prop} (w1 : (Cond.methodLink own i y).before a0 Z = true) (wd : (Cond.declares y).before a0 Z = true) (ws : (Cond.selects C y y).before a0 Z = true) (w2 : (Cond.instanceMethod y).before a0 Z = true) (w3 : (Cond.initialized y.cls).before a0 Z = true) (w4 : (Cond.code y bytes maxL rt').before a0 Z = true) (E : Exa Z h a C) (hM : Con l y bytes maxL rt' rm [] Z as' h n0 Q)
    (hy : y.cls ≠ "java/lang/invoke/MethodHandle" ∧ y.cls ≠ "java/lang/invoke/VarHandle") {ps : List FieldType} {r : Option FieldType} (hds : parseMethodDescriptor y.desc = some ⟨ps, r⟩) (argsL rest : List Value) (hlen : argsL.length = ps.length) (hst : st = argsL.reverse ++ .ref a :: rest) (has : (.ref a :: argsL).toArray = as') (hls : Ls.size = ml) (W : Nat) (hW : (rest.map fun v => v.category).sum ≤ W) (hfr : rm.frames + 1 ≤ R.frames) (hlo : W + (maxL + 11) + rm.locals ≤ R.locals) (hce : cells + rm.cells ≤ R.cells) (hsl : slots + rm.slots ≤ R.slots) (cells' slots' : Nat) (hc' : cells + rm.cells = cells') (hs' : slots + rm.slots = slots')
    (hd : decode bs pc = .ok (.invokevirtual i, 3)) (pc' : Nat) (hp : pc + 3 = pc')
    (k : ∀ v T' h', Hr p l e R s m args below meth c Z own bs ml n0 rt T' h' cells' slots' → Q v h' → Wk p.tables e below G (T'.setTop (mkF m pc' Ls (v.toList ++ rest)))) : Wk p.tables e below G (T.setTop (mkF m pc Ls st)) := by
  subst hp hc' hs' hst has
  obtain ⟨⟨locs, Y, N⟩, hx, hc, hm, hZ, ho, hr, hl, eT⟩ := X
  obtain ⟨cq, kq, qa, qb, qc⟩ := isOf hZ eT E
  obtain ⟨v, _, ⟨T1, L1, k1, n1⟩, -, Y1, ⟨Lc, hQ, l1, y1, z1⟩, q⟩ := Y.virtualBack hx (y := y) (z := y) ho (mvT hZ w1) (mvT hZ wd) (notFace_of_selects (args := #[]) (mvT hZ ws)) (mvT hZ ws) (mvT hZ w2) hy (backOf (W := W) (Q := fun v h L => Q v h ∧ Fr n0 L) hM hZ w4 w3 hfr hlo) qa qc (g := mkF m pc Ls (argsL.reverse ++ .ref a :: rest)) rfl (by rw [hm]; exact hls) (Steps.refl _) (argsL := argsL) (rest := rest) (lenOf hds hlen) rfl (by show 2 * 0 + _ ≤ _; omega) (hb hc hd) (fun _ _ => ⟨rfl, eT, hce, hsl⟩)
  dsimp only [Pt.U, Pt.locs, Pt.cells, Pt.slots] at Y1 l1 y1 z1 q hQ
  subst l1 y1 z1
  exact Wk.go (fun t z => q.trans z) (k v T1 T1.heap ⟨⟨_, Y1, Fr.app N hQ.2⟩, hx, hc, hm, hZ, ho, hr, hl, rfl⟩ hQ.1)
theorem Hr.more (X : Hr p l e R s m args below meth c Z own bs ml n0 rt T h cells slots) {cells' slots' : Nat} (h1 : cells ≤ cells') (h2 : slots ≤ slots') : Hr p l e R s m args below meth c Z own bs ml n0 rt T h cells' slots' := by
  obtain ⟨⟨locs, Y, N⟩, r⟩ := X
  exact ⟨⟨locs, Y.more h1 h2, N⟩, r⟩
variable {Q : Option Value → Heap → Prop} {C N : Nat}
theorem Wk.ireturn (X : Hr p l e R s m args below meth c Z own bs ml n0 (some .int) T h cells slots) {z : Int32} (hd : decode bs pc = .ok (.ireturn, 1)) (hC : cells ≤ C) (hN : slots ≤ N) (q : Q (some (.int z)) h) : Wk p.tables e below (Gl s n0 Q C N) (T.setTop (mkF m pc Ls (.int z :: st))) := by
  obtain ⟨⟨locs, Y, F⟩, hx, hc, hm, hZ, ho, hr, hl, rfl⟩ := X
  obtain ⟨fs, hq, hrun, hended, hW, hsame⟩ := Y.leave (v := some (.int z)) (fun h => by rw [hr] at h; cases h) hl
  exact ⟨_, _, retOut Y hx hr rfl (Or.inl ⟨rfl, Or.inl rfl, _, rfl⟩) (hb hc hd) hq, hrun, hended, _, _, rfl, ⟨q, F⟩, ⟨_, rfl⟩, hW, hsame.mono hC hN⟩
theorem Wk.zreturn (X : Hr p l e R s m args below meth c Z own bs ml n0 (some .boolean) T h cells slots) {z : Int32} (hd : decode bs pc = .ok (.ireturn, 1)) (hC : cells ≤ C) (hN : slots ≤ N) (hz : z = 0 ∨ z = 1) (q : Q (some (.int z)) h) : Wk p.tables e below (Gl s n0 Q C N) (T.setTop (mkF m pc Ls (.int z :: st))) := by
  obtain ⟨⟨locs, Y, F⟩, hx, hc, hm, hZ, ho, hr, hl, rfl⟩ := X
  obtain ⟨fs, hq, hrun, hended, hW, hsame⟩ := Y.leave (v := some (.int z)) (fun h => by rw [hr] at h; cases h) hl
  exact ⟨_, _, retOut Y hx hr (by rcases hz with rfl | rfl <;> rfl) (Or.inl ⟨rfl, Or.inr (Or.inl rfl), _, rfl⟩) (hb hc hd) hq, hrun, hended, _, _, rfl, ⟨q, F⟩, ⟨_, rfl⟩, hW, hsame.mono hC hN⟩
theorem Wk.lreturn (X : Hr p l e R s m args below meth c Z own bs ml n0 (some .long) T h cells slots) {z : Int64} (hd : decode bs pc = .ok (.lreturn, 1)) (hC : cells ≤ C) (hN : slots ≤ N) (q : Q (some (.long z)) h) : Wk p.tables e below (Gl s n0 Q C N) (T.setTop (mkF m pc Ls (.long z :: st))) := by
  obtain ⟨⟨locs, Y, F⟩, hx, hc, hm, hZ, ho, hr, hl, rfl⟩ := X
  obtain ⟨fs, hq, hrun, hended, hW, hsame⟩ := Y.leave (v := some (.long z)) (fun h => by rw [hr] at h; cases h) hl
  exact ⟨_, _, retOut Y hx hr rfl (Or.inr (Or.inl ⟨rfl, rfl, _, rfl⟩)) (hb hc hd) hq, hrun, hended, _, _, rfl, ⟨q, F⟩, ⟨_, rfl⟩, hW, hsame.mono hC hN⟩
theorem Wk.areturn {ty : FieldType} (X : Hr p l e R s m args below meth c Z own bs ml n0 (some ty) T h cells slots) {v : Value} (hd : decode bs pc = .ok (.areturn, 1)) (hC : cells ≤ C) (hN : slots ≤ N) (ht : ty.isReference = true) (hn : narrow ty v = v) (hv : v.isRef = true) (q : Q (some v) h) : Wk p.tables e below (Gl s n0 Q C N) (T.setTop (mkF m pc Ls (v :: st))) := by
  obtain ⟨⟨locs, Y, F⟩, hx, hc, hm, hZ, ho, hr, hl, rfl⟩ := X
  obtain ⟨fs, hq, hrun, hended, hW, hsame⟩ := Y.leave (v := some v) (fun h => by rw [hr] at h; cases h) hl
  exact ⟨_, _, retOut Y hx hr hn (Or.inr (Or.inr (Or.inr (Or.inr ⟨rfl, ht, hv⟩)))) (hb hc hd) hq, hrun, hended, _, _, rfl, ⟨q, F⟩, ⟨_, rfl⟩, hW, hsame.mono hC hN⟩
theorem Wk.vreturn (X : Hr p l e R s m args below meth c Z own bs ml n0 none T h cells slots) (hd : decode bs pc = .ok (.return_, 1)) (hC : cells ≤ C) (hN : slots ≤ N) (q : Q none h) : Wk p.tables e below (Gl s n0 Q C N) (T.setTop (mkF m pc Ls [])) := by
  obtain ⟨⟨locs, Y, F⟩, hx, hc, hm, hZ, ho, hr, hl, rfl⟩ := X
  obtain ⟨fs, hq, hrun, hended, hW, hsame⟩ := Y.leave (v := none) (fun _ => rfl) hl
  exact ⟨_, _, Y.returnOut hx hr (hb hc hd) hq, hrun, hended, _, _, rfl, ⟨q, F⟩, ⟨_, rfl⟩, hW, hsame.mono hC hN⟩
end Layer
theorem nn_new {n0 a r n : Nat} (q : n0 ≤ a) (h : a < n) (g : r = n) : n0 ≤ r := by omega
theorem ne_new {a r n : Nat} (h : a < n) (g : r = n) : a ≠ r := by omega
section Layer4
variable {p : Program} {l : Launch} {e : Env} {R : Room} {s : State} {m : MethodId} {args : Array Value} {below : List Frame} {meth : Method} {c : Code} {Z : State} {own : String} {bs : ByteArray} {ml n0 : Nat} {rt : Option FieldType} {T : State} {h h' : Heap} {cells slots : Nat} {G : State → Outcome → Prop} {pc : Nat} {Ls : Array Slot} {st : List Value} {a0 : Array Value} {a b : Addr}
/-- a cell that the VM knows -/
def Kn (h : Heap) (a : Addr) : Prop := ∃ cell : Cell, h[a]? = some cell ∧ cell.vm ≠ .unknown
theorem Kn.of {O n d : String} {v : Value} (F : Fld Z h a O n d v) : Kn h a := by
  obtain ⟨cell, _, _, _, _, h1, -, -, h4, -⟩ := F; exact ⟨cell, h1, h4⟩
theorem Kn.ext (N : Kn h a) (E : Ext h h') : Kn h' a := by
  obtain ⟨cell, h1, h2⟩ := N; exact ⟨cell, E.2 _ _ h1, h2⟩
theorem Kn.keep {ws : List Addr} (N : Kn h a) (K : Keep h h' ws) : Kn h' a := by
  obtain ⟨cell, h1, h2⟩ := N
  obtain ⟨c', q1, -, q3, -⟩ := K.2.2 a cell h1
  exact ⟨c', q1, by rw [q3]; exact h2⟩
theorem Kn.wr {sl : Nat} {v : Value} (N : Kn h a) (W : Wr h h' b sl v) : Kn h' a := N.keep (Keep.of_wr W)
theorem Wk.putF (X : Hr p l e R s m args below meth c Z own bs ml n0 rt T h cells slots) {i kk : Nat} {R0 O n d C : String} {ty : FieldType} {v : Value} (w : (Cond.fieldLink own i R0 n d).before a0 Z = true) (via : Via Z R0 O n d) (E : Exa Z h a C) (N : Kn h a) (L : (Cond.lays C O n d).before a0 Z = true ∨ ((Cond.laysFinal C O n d).before a0 Z = true ∧ own = O ∧ meth.name = "<init>")) (wi : (Cond.instantiable C kk).before a0 Z = true)
    (hty : parseFieldDescriptor d = some ty) (hn : narrow ty v = v) (hf : fits ty v = true) (hnew : n0 ≤ a) (hd : decode bs pc = .ok (.putfield i, 3)) (pc' : Nat) (hp : pc + 3 = pc')
    (k : ∀ T' h', Hr p l e R s m args below meth c Z own bs ml n0 rt T' h' cells slots → Wr h h' a (Jvm.RoadKit.slotOf Z O n d) v → Fld Z h' a O n d v → Wk p.tables e below G (T'.setTop (mkF m pc' Ls st))) : Wk p.tables e below G (T.setTop (mkF m pc Ls (v :: .ref a :: st))) := by
  obtain ⟨old, F⟩ := fld_laid (a0 := a0) E N wi (O := O) (n := n) (d := d) (L.imp id (·.1))
  exact Wk.putfield X w via F E L wi hty hn hf hnew hd pc' hp (fun T' h' X' W => k T' h' X' W (F.same W))
theorem Wk.castY (X : Hr p l e R s m args below meth c Z own bs ml n0 rt T h cells slots) {i : Nat} {K : String} (w : (Cond.classLink own i K).before a0 Z = true) (F : Ins Z h a K true) (hd : decode bs pc = .ok (.checkcast i, 3)) (pc' : Nat) (hp : pc + 3 = pc')
    (k : ∀ T', Hr p l e R s m args below meth c Z own bs ml n0 rt T' h cells slots → Wk p.tables e below G (T'.setTop (mkF m pc' Ls (.ref a :: st)))) : Wk p.tables e below G (T.setTop (mkF m pc Ls (.ref a :: st))) := by
  subst hp
  obtain ⟨⟨locs, Y, N⟩, hx, hc, hm, hZ, ho, hr, hl, eT⟩ := X
  obtain ⟨T', Y', e', q⟩ := Jvm.RoadKit.castY Y hx hZ ho w eT F (g := mkF m pc Ls (.ref a :: st)) rfl rfl (hb hc hd)
  exact Wk.go q (k T' ⟨⟨locs, Y', N⟩, hx, hc, hm, hZ, ho, hr, hl, e'⟩)
theorem Wk.instY (X : Hr p l e R s m args below meth c Z own bs ml n0 rt T h cells slots) {i : Nat} {K : String} (w : (Cond.classLink own i K).before a0 Z = true) (F : Ins Z h a K true) (hd : decode bs pc = .ok (.instanceof i, 3)) (pc' : Nat) (hp : pc + 3 = pc')
    (k : ∀ T', Hr p l e R s m args below meth c Z own bs ml n0 rt T' h cells slots → Wk p.tables e below G (T'.setTop (mkF m pc' Ls (.int 1 :: st)))) : Wk p.tables e below G (T.setTop (mkF m pc Ls (.ref a :: st))) := by
  subst hp
  obtain ⟨⟨locs, Y, N⟩, hx, hc, hm, hZ, ho, hr, hl, eT⟩ := X
  obtain ⟨T', Y', e', q⟩ := Jvm.RoadKit.instY Y hx hZ ho w eT F (g := mkF m pc Ls (.ref a :: st)) rfl rfl (hb hc hd)
  exact Wk.go q (k T' ⟨⟨locs, Y', N⟩, hx, hc, hm, hZ, ho, hr, hl, e'⟩)
/-- a private method's call, by its contract: that its class is no interface comes of another method's 'selects' word -/
theorem Wk.callP (X : Hr p l e R s m args below meth c Z own bs ml n0 rt T h cells slots) {i : Nat} {y z : MethodName} {C : String} {bytes : ByteArray} {maxL : Nat} {rt' : Option FieldType} {rm : Room} {as' : Array Value} {Q : Option Value → Heap → Prop} (w1 : (Cond.methodLink own i y).before a0 Z = true) (wp : (Cond.privateMethod y).before a0 Z = true) (w2 : (Cond.instanceMethod y).before a0 Z = true) (w3 : (Cond.initialized y.cls).before a0 Z = true) (w4 : (Cond.code y bytes maxL rt').before a0 Z = true) (ws : (Cond.selects C z z).before a0 Z = true) (hz : z.cls = y.cls) (E : Exa Z h a C) (hM : Con l y bytes maxL rt' rm [] Z as' h n0 Q)
    (hy : y.cls ≠ "java/lang/invoke/MethodHandle" ∧ y.cls ≠ "java/lang/invoke/VarHandle") {ps : List FieldType} {r : Option FieldType} (hds : parseMethodDescriptor y.desc = some ⟨ps, r⟩) (argsL rest : List Value) (hlen : argsL.length = ps.length) (hst : st = argsL.reverse ++ .ref a :: rest) (has : (.ref a :: argsL).toArray = as') (hls : Ls.size = ml) (W : Nat) (hW : (rest.map fun v => v.category).sum ≤ W) (hfr : rm.frames + 1 ≤ R.frames) (hlo : W + (maxL + 11) + rm.locals ≤ R.locals) (hce : cells + rm.cells ≤ R.cells) (hsl : slots + rm.slots ≤ R.slots) (cells' slots' : Nat) (hc' : cells + rm.cells = cells') (hs' : slots + rm.slots = slots')
    (hd : decode bs pc = .ok (.invokevirtual i, 3)) (pc' : Nat) (hp : pc + 3 = pc')
    (k : ∀ v T' h', Hr p l e R s m args below meth c Z own bs ml n0 rt T' h' cells' slots' → Q v h' → Wk p.tables e below G (T'.setTop (mkF m pc' Ls (v.toList ++ rest)))) : Wk p.tables e below G (T.setTop (mkF m pc Ls st)) := by
  subst hp hc' hs' hst has
  obtain ⟨⟨locs, Y, N⟩, hx, hc, hm, hZ, ho, hr, hl, eT⟩ := X
  obtain ⟨cell, hcell, hobj⟩ := E.cell
  obtain ⟨mk, methM, hnamed, hmethM, hstM, habM⟩ := Cond.instanceMethod_spec (mv (args := args) hZ w2)
  obtain ⟨methM', cM, hmethM', -, -, -, -, -, -, hsigM⟩ := Cond.code_spec hnamed (mv (args := args) hZ w4)
  cases hmethM.symm.trans hmethM'
  obtain ⟨c2, r2, m2, q1, q2, q3, q4, kP, hkP, hkPi⟩ := Cond.selects_spec (mv (args := args) hZ ws)
  have hcls : m2.cls = mk.cls := by
    have a1 := findClass_of_methodNamed q3
    have a2 := findClass_of_methodNamed hnamed
    rw [hz] at a1
    exact Option.some.inj (a1.symm.trans a2)
  rw [hcls] at hkP
  have hpriv := Cond.privateMethod_at (mvP hZ wp (args := args))
  have hselP : selectMethod e.platform s.vm cell.cls mk = .method mk := selectMethod_private hmethM (hpriv mk methM hnamed hmethM)
  obtain ⟨vm₁, X₁, hstep₁⟩ := Y.invokevirtual hx ho (mv (args := args) hZ w1) hnamed hmethM hstM hkP hkPi hy (a := a) (cell := cell) (by rw [eT]; exact hcell) hobj hselP hmethM habM hkP hkPi (g := mkF m pc Ls (argsL.reverse ++ .ref a :: rest)) rfl (argsL := argsL) (rest := rest) (lenOf hds hlen _ hsigM) rfl (hb hc hd)
  have hW₁ : s.WarmedH vm₁ := X₁.warmed
  have hK := backOf (len := 3) (W := W) (Q := fun v h L => Q v h ∧ Fr n0 L) (below := below) (s := s) (args := args) (p := p) (e := e) hM hZ w4 w3 hfr hlo
  obtain ⟨v, ⟨T1, L1, k1, n1⟩, Y1, ⟨Lc, hQ, l1, y1, z1⟩, hsteps⟩ := hK m meth c ⟨T.setVm vm₁, locs, cells, slots⟩ (mkF m pc Ls rest) (.invokevirtual i) mk (.ref a :: argsL).toArray X₁ rfl (by rw [hm]; exact hls) (hb hc hd) (by show 2 * 0 + (rest.map fun v => v.category).sum ≤ W; omega) (X₁.named hnamed) ⟨rfl, eT, hce, hsl⟩
  dsimp only [Pt.U, Pt.locs, Pt.cells, Pt.slots] at Y1 l1 y1 z1 hQ hsteps
  subst l1 y1 z1
  refine Wk.go (fun t z => ?_) (k v T1 T1.heap ⟨⟨_, Y1, Fr.app N hQ.2⟩, hx, hc, hm, hZ, ho, hr, hl, rfl⟩ hQ.1)
  exact hstep₁ _ fun acts => by rw [doInvoke_state]; exact hsteps.trans z
/-- the int on top, written otherwise -/
theorem Wk.topI {x : Int32} (z : Int32) (q : x = z) (k : Wk p.tables e below G (T.setTop (mkF m pc Ls (.int z :: st)))) : Wk p.tables e below G (T.setTop (mkF m pc Ls (.int x :: st))) := by
  subst q; exact k
/-- roads that meet with an int of any worth -/
theorem Wk.joinI {a : State} (b : Int32 → State) (k2 : ∀ q, Wk p.tables e below G (b q)) (k1 : (∀ q, Wk p.tables e below G (b q)) → Wk p.tables e below G a) : Wk p.tables e below G a := k1 k2
theorem Wk.dup2 (X : Hr p l e R s m args below meth c Z own bs ml n0 rt T h cells slots) {v w : Value} (hd : decode bs pc = .ok (.dup2, 1)) (pc' : Nat) (hp : pc + 1 = pc') (hv : v.category = 1) (hw : w.category = 1) (k : Wk p.tables e below G (T.setTop (mkF m pc' Ls (v :: w :: v :: w :: st)))) : Wk p.tables e below G (T.setTop (mkF m pc Ls (v :: w :: st))) := by
  subst hp
  exact Wk.pu X (fun hA hx hc t q => Jvm.Free.XT.dup2 hA hx rfl (hb hc hd) rfl hv hw q) k
theorem Wk.nreturn {ty : FieldType} (X : Hr p l e R s m args below meth c Z own bs ml n0 (some ty) T h cells slots) {Q : Option Value → Heap → Prop} {C N : Nat} {z : Int32} (ht : ty = .int ∨ ty = .boolean ∨ ty = .byte ∨ ty = .char ∨ ty = .short) (hd : decode bs pc = .ok (.ireturn, 1)) (hC : cells ≤ C) (hN : slots ≤ N) (hz : narrow ty (.int z) = .int z) (q : Q (some (.int z)) h) : Wk p.tables e below (Gl s n0 Q C N) (T.setTop (mkF m pc Ls (.int z :: st))) := by
  obtain ⟨⟨locs, Y, F⟩, hx, hc, hm, hZ, ho, hr, hl, rfl⟩ := X
  obtain ⟨fs, hq, hrun, hended, hW, hsame⟩ := Y.leave (v := some (.int z)) (fun h => by rw [hr] at h; cases h) hl
  exact ⟨_, _, retOut Y hx hr hz (Or.inl ⟨rfl, ht, _, rfl⟩) (hb hc hd) hq, hrun, hended, _, _, rfl, ⟨q, F⟩, ⟨_, rfl⟩, hW, hsame.mono hC hN⟩
end Layer4
theorem t0 {a0 : Array Value} {Z : State} (hw : ∀ d ∈ tables_1, d.before a0 Z = true) : Jvm.Cond.before (Jvm.Cond.constant "com/example/garblescore/garblescore/io/Utf8PackedPinLaw" (7 : Nat) (2147483647 : Int32)) a0 Z = true := hw _ (List.mem_of_getElem? (i := 0) rfl)
theorem t1 {a0 : Array Value} {Z : State} (hw : ∀ d ∈ tables_1, d.before a0 Z = true) : Jvm.Cond.before (Jvm.Cond.constant "com/example/garblescore/garblescore/io/Utf8PackedPinLaw" (8 : Nat) (1114112 : Int32)) a0 Z = true := hw _ (List.mem_of_getElem? (i := 1) rfl)
theorem t2 {a0 : Array Value} {Z : State} (hw : ∀ d ∈ tables_1, d.before a0 Z = true) : Jvm.Cond.before (Jvm.Cond.methodLink "com/example/garblescore/garblescore/io/Utf8PackedPinLaw" (9 : Nat) ({ cls := "com/example/garblescore/garblescore/io/Utf8", name := "packed", desc := "(I)I" } : Jvm.MethodName)) a0 Z = true := hw _ (List.mem_of_getElem? (i := 2) rfl)
theorem t3 {a0 : Array Value} {Z : State} (hw : ∀ d ∈ tables_1, d.before a0 Z = true) : Jvm.Cond.before (Jvm.Cond.static ({ cls := "com/example/garblescore/garblescore/io/Utf8", name := "packed", desc := "(I)I" } : Jvm.MethodName)) a0 Z = true := hw _ (List.mem_of_getElem? (i := 3) rfl)
theorem t4 {a0 : Array Value} {Z : State} (hw : ∀ d ∈ tables_1, d.before a0 Z = true) : Jvm.Cond.before (Jvm.Cond.initialized "com/example/garblescore/garblescore/io/Utf8") a0 Z = true := hw _ (List.mem_of_getElem? (i := 4) rfl)
theorem t5 {a0 : Array Value} {Z : State} (hw : ∀ d ∈ tables_1, d.before a0 Z = true) : Jvm.Cond.before (Jvm.Cond.code ({ cls := "com/example/garblescore/garblescore/io/Utf8", name := "packed", desc := "(I)I" } : Jvm.MethodName) prog_100_method_3_code (1 : Nat) (Option.some Jvm.ClassFile.FieldType.int)) a0 Z = true := hw _ (List.mem_of_getElem? (i := 5) rfl)
theorem t6 {a0 : Array Value} {Z : State} (hw : ∀ d ∈ tables_1, d.before a0 Z = true) : Jvm.Cond.before (Jvm.Cond.constant "com/example/garblescore/garblescore/io/Utf8" (20 : Nat) (55296 : Int32)) a0 Z = true := hw _ (List.mem_of_getElem? (i := 6) rfl)
theorem t7 {a0 : Array Value} {Z : State} (hw : ∀ d ∈ tables_1, d.before a0 Z = true) : Jvm.Cond.before (Jvm.Cond.constant "com/example/garblescore/garblescore/io/Utf8" (21 : Nat) (57343 : Int32)) a0 Z = true := hw _ (List.mem_of_getElem? (i := 7) rfl)
theorem t8 {a0 : Array Value} {Z : State} (hw : ∀ d ∈ tables_1, d.before a0 Z = true) : Jvm.Cond.before (Jvm.Cond.constant "com/example/garblescore/garblescore/io/Utf8" (22 : Nat) (65536 : Int32)) a0 Z = true := hw _ (List.mem_of_getElem? (i := 8) rfl)
theorem t9 {a0 : Array Value} {Z : State} (hw : ∀ d ∈ tables_1, d.before a0 Z = true) : Jvm.Cond.before (Jvm.Cond.constant "com/example/garblescore/garblescore/io/Utf8PackedPinLaw" (15 : Nat) (55296 : Int32)) a0 Z = true := hw _ (List.mem_of_getElem? (i := 9) rfl)
theorem t10 {a0 : Array Value} {Z : State} (hw : ∀ d ∈ tables_1, d.before a0 Z = true) : Jvm.Cond.before (Jvm.Cond.constant "com/example/garblescore/garblescore/io/Utf8PackedPinLaw" (16 : Nat) (57343 : Int32)) a0 Z = true := hw _ (List.mem_of_getElem? (i := 10) rfl)
theorem t11 {a0 : Array Value} {Z : State} (hw : ∀ d ∈ tables_1, d.before a0 Z = true) : Jvm.Cond.before (Jvm.Cond.constant "com/example/garblescore/garblescore/io/Utf8PackedPinLaw" (23 : Nat) (65536 : Int32)) a0 Z = true := hw _ (List.mem_of_getElem? (i := 11) rfl)
theorem t12 {a0 : Array Value} {Z : State} (hw : ∀ d ∈ tables_1, d.before a0 Z = true) : Jvm.Cond.before (Jvm.Cond.methodLink "com/example/garblescore/garblescore/io/Utf8PackedPinLaw" (17 : Nat) ({ cls := "com/example/garblescore/garblescore/io/Utf8PackedPinLaw", name := "cont", desc := "(I)Z" } : Jvm.MethodName)) a0 Z = true := hw _ (List.mem_of_getElem? (i := 12) rfl)
theorem t13 {a0 : Array Value} {Z : State} (hw : ∀ d ∈ tables_1, d.before a0 Z = true) : Jvm.Cond.before (Jvm.Cond.static ({ cls := "com/example/garblescore/garblescore/io/Utf8PackedPinLaw", name := "cont", desc := "(I)Z" } : Jvm.MethodName)) a0 Z = true := hw _ (List.mem_of_getElem? (i := 13) rfl)
theorem t14 {a0 : Array Value} {Z : State} (hw : ∀ d ∈ tables_1, d.before a0 Z = true) : Jvm.Cond.before (Jvm.Cond.initialized "com/example/garblescore/garblescore/io/Utf8PackedPinLaw") a0 Z = true := hw _ (List.mem_of_getElem? (i := 14) rfl)
theorem t15 {a0 : Array Value} {Z : State} (hw : ∀ d ∈ tables_1, d.before a0 Z = true) : Jvm.Cond.before (Jvm.Cond.code ({ cls := "com/example/garblescore/garblescore/io/Utf8PackedPinLaw", name := "cont", desc := "(I)Z" } : Jvm.MethodName) method_3_code (1 : Nat) (Option.some Jvm.ClassFile.FieldType.boolean)) a0 Z = true := hw _ (List.mem_of_getElem? (i := 15) rfl)
theorem pd0 : parseMethodDescriptor "(I)I" = some ⟨[.int], some .int⟩ := by decide +kernel
theorem pd1 : parseMethodDescriptor "(I)Z" = some ⟨[.int], some .boolean⟩ := by decide +kernel
theorem pn0 : plainName "com/example/garblescore/garblescore/io/Utf8" = true := by first | (simp [plainName, overriddenIn]; done) | decide +kernel
theorem pn1 : plainName "com/example/garblescore/garblescore/io/Utf8PackedPinLaw" = true := by first | (simp [plainName, overriddenIn]; done) | decide +kernel
/-! the plain law: bits as sums -/
theorem own_and_small (a b z x : Int32) (hi : Nat) (h1 : x.toInt = (hi : Int)) (hz : ∀ k : Fin 256, k.val = hi → (Int32.ofNat k.val) &&& a = b) (hb : hi < 256) : x &&& a = b := by
  have e : x = Int32.ofNat hi := by
    apply Int32.toInt_inj.mp
    rw [h1, Int32.toInt_ofNat_of_lt (by omega)]
  rw [e]
  exact hz ⟨hi, hb⟩ rfl
theorem own_and224 (x : Int32) (h1 : 192 ≤ x.toInt) (h2 : x.toInt < 224) : x &&& 224 = 192 := by
  have q : ∀ k : Fin 256, 192 ≤ k.val → k.val < 224 → (Int32.ofNat k.val) &&& (224 : Int32) = 192 := by decide +kernel
  exact own_and_small 224 192 0 x x.toInt.toNat (by omega) (fun k hk => q k (by omega) (by omega)) (by omega)
theorem own_and240 (x : Int32) (h1 : 224 ≤ x.toInt) (h2 : x.toInt < 240) : x &&& 240 = 224 := by
  have q : ∀ k : Fin 256, 224 ≤ k.val → k.val < 240 → (Int32.ofNat k.val) &&& (240 : Int32) = 224 := by decide +kernel
  exact own_and_small 240 224 0 x x.toInt.toNat (by omega) (fun k hk => q k (by omega) (by omega)) (by omega)
theorem own_and248 (x : Int32) (h1 : 240 ≤ x.toInt) (h2 : x.toInt < 248) : x &&& 248 = 240 := by
  have q : ∀ k : Fin 256, 240 ≤ k.val → k.val < 248 → (Int32.ofNat k.val) &&& (248 : Int32) = 240 := by decide +kernel
  exact own_and_small 248 240 0 x x.toInt.toNat (by omega) (fun k hk => q k (by omega) (by omega)) (by omega)
theorem own_and192 (x : Int32) (h1 : 128 ≤ x.toInt) (h2 : x.toInt < 192) : x &&& 192 = 128 := by
  have q : ∀ k : Fin 256, 128 ≤ k.val → k.val < 192 → (Int32.ofNat k.val) &&& (192 : Int32) = 128 := by decide +kernel
  exact own_and_small 192 128 0 x x.toInt.toNat (by omega) (fun k hk => q k (by omega) (by omega)) (by omega)
theorem own_i0 : (0 : Int32).toInt = 0 := rfl
/-- an or of a multiple of 2^k and a number below it, both not negative, is their sum -/
theorem own_or (a b : Int32) (k : Nat) (hk : k ≤ 31) (P : Int) (hP : P = (2 ^ k : Nat)) (h1 : a.toInt % P = 0) (h2 : 0 ≤ b.toInt) (h3 : b.toInt < P) (h4 : 0 ≤ a.toInt) (h5 : a.toInt + b.toInt < 2147483648) : (a ||| b).toInt = a.toInt + b.toInt := by
  have q := c_or a b k hk P hP h1 h2 h3
  have r := rng32 (a ||| b)
  omega
theorem own_or' (b a : Int32) (k : Nat) (hk : k ≤ 31) (P : Int) (hP : P = (2 ^ k : Nat)) (h1 : a.toInt % P = 0) (h2 : 0 ≤ b.toInt) (h3 : b.toInt < P) (h4 : 0 ≤ a.toInt) (h5 : a.toInt + b.toInt < 2147483648) : (b ||| a).toInt = a.toInt + b.toInt := by
  have q := c_or' b a k hk P hP h1 h2 h3
  have r := rng32 (b ||| a)
  omega
theorem own_shl (x q : Int32) (k : Nat) (hk : q.toBitVec.toNat % 32 = k) (K : Int) (hK : K = (2 ^ k : Nat)) (h1 : 0 ≤ x.toInt * K) (h2 : x.toInt * K < 2147483648) : (x <<< (q &&& 31)).toInt = x.toInt * K := by
  have e := c_ishl x q k hk
  have r := rng32 (x <<< (q &&& 31))
  rw [← hK] at e
  omega
def pk2 (x : Int32) : Int32 := (((192 : Int32) ||| (x >>> ((6 : Int32) &&& 31))) ||| (((128 : Int32) ||| (x &&& (63 : Int32))) <<< ((8 : Int32) &&& 31)))
def pk3 (x : Int32) : Int32 := ((((224 : Int32) ||| (x >>> ((12 : Int32) &&& 31))) ||| (((128 : Int32) ||| ((x >>> ((6 : Int32) &&& 31)) &&& (63 : Int32))) <<< ((8 : Int32) &&& 31))) ||| (((128 : Int32) ||| (x &&& (63 : Int32))) <<< ((16 : Int32) &&& 31)))
def pk4 (x : Int32) : Int32 := (((((240 : Int32) ||| (x >>> ((18 : Int32) &&& 31))) ||| (((128 : Int32) ||| ((x >>> ((12 : Int32) &&& 31)) &&& (63 : Int32))) <<< ((8 : Int32) &&& 31))) ||| (((128 : Int32) ||| ((x >>> ((6 : Int32) &&& 31)) &&& (63 : Int32))) <<< ((16 : Int32) &&& 31))) ||| (((128 : Int32) ||| (x &&& (63 : Int32))) <<< ((24 : Int32) &&& 31)))
theorem own_pk2 (x : Int32) (h1 : 128 ≤ x.toInt) (h2 : x.toInt < 2048) : (pk2 x).toInt = 192 + x.toInt / 64 + (128 + x.toInt % 64) * 256 := by
  have e1 : (x >>> ((6 : Int32) &&& 31)).toInt = x.toInt / 64 := c_ishr x 6 6 (by decide)
  have e2 : (x &&& (63 : Int32)).toInt = x.toInt % 64 := c_mask x 63 6 (by decide) (by decide)
  have e3 : ((192 : Int32) ||| (x >>> ((6 : Int32) &&& 31))).toInt = 192 + x.toInt / 64 := by
    rw [own_or 192 _ 6 (by decide) 64 (by decide) (by decide) (by omega) (by omega) (by decide) (by rw [show (192 : Int32).toInt = 192 from rfl]; omega), e1]; rfl
  have e4 : ((128 : Int32) ||| (x &&& (63 : Int32))).toInt = 128 + x.toInt % 64 := by
    rw [own_or 128 _ 7 (by decide) 128 (by decide) (by decide) (by omega) (by omega) (by decide) (by rw [show (128 : Int32).toInt = 128 from rfl]; omega), e2]; rfl
  have e5 : (((128 : Int32) ||| (x &&& (63 : Int32))) <<< ((8 : Int32) &&& 31)).toInt = (128 + x.toInt % 64) * 256 := by
    rw [own_shl _ 8 8 (by decide) 256 (by decide) (by omega) (by omega), e4]
  unfold pk2
  rw [own_or' _ _ 8 (by decide) 256 (by decide) (by omega) (by omega) (by omega) (by omega) (by omega), e3, e5]
  omega
theorem own_pk3 (x : Int32) (h1 : 2048 ≤ x.toInt) (h2 : x.toInt < 65536) : (pk3 x).toInt = 224 + x.toInt / 4096 + (128 + x.toInt / 64 % 64) * 256 + (128 + x.toInt % 64) * 65536 := by
  have e1 : (x >>> ((12 : Int32) &&& 31)).toInt = x.toInt / 4096 := c_ishr x 12 12 (by decide)
  have e0 : (x >>> ((6 : Int32) &&& 31)).toInt = x.toInt / 64 := c_ishr x 6 6 (by decide)
  have e2 : (x &&& (63 : Int32)).toInt = x.toInt % 64 := c_mask x 63 6 (by decide) (by decide)
  have e2' : ((x >>> ((6 : Int32) &&& 31)) &&& (63 : Int32)).toInt = x.toInt / 64 % 64 := by rw [← e0]; exact c_mask _ 63 6 (by decide) (by decide)
  have e3 : ((224 : Int32) ||| (x >>> ((12 : Int32) &&& 31))).toInt = 224 + x.toInt / 4096 := by
    rw [own_or 224 _ 5 (by decide) 32 (by decide) (by decide) (by omega) (by omega) (by decide) (by rw [show (224 : Int32).toInt = 224 from rfl]; omega), e1]; rfl
  have e4 : ((128 : Int32) ||| (x &&& (63 : Int32))).toInt = 128 + x.toInt % 64 := by
    rw [own_or 128 _ 7 (by decide) 128 (by decide) (by decide) (by omega) (by omega) (by decide) (by rw [show (128 : Int32).toInt = 128 from rfl]; omega), e2]; rfl
  have e4' : ((128 : Int32) ||| ((x >>> ((6 : Int32) &&& 31)) &&& (63 : Int32))).toInt = 128 + x.toInt / 64 % 64 := by
    rw [own_or 128 _ 7 (by decide) 128 (by decide) (by decide) (by omega) (by omega) (by decide) (by rw [show (128 : Int32).toInt = 128 from rfl]; omega), e2']; rfl
  have e5 : (((128 : Int32) ||| (x &&& (63 : Int32))) <<< ((16 : Int32) &&& 31)).toInt = (128 + x.toInt % 64) * 65536 := by
    rw [own_shl _ 16 16 (by decide) 65536 (by decide) (by omega) (by omega), e4]
  have e5' : (((128 : Int32) ||| ((x >>> ((6 : Int32) &&& 31)) &&& (63 : Int32))) <<< ((8 : Int32) &&& 31)).toInt = (128 + x.toInt / 64 % 64) * 256 := by
    rw [own_shl _ 8 8 (by decide) 256 (by decide) (by omega) (by omega), e4']
  have e6 : (((224 : Int32) ||| (x >>> ((12 : Int32) &&& 31))) ||| (((128 : Int32) ||| ((x >>> ((6 : Int32) &&& 31)) &&& (63 : Int32))) <<< ((8 : Int32) &&& 31))).toInt = 224 + x.toInt / 4096 + (128 + x.toInt / 64 % 64) * 256 := by
    rw [own_or' _ _ 8 (by decide) 256 (by decide) (by omega) (by omega) (by omega) (by omega) (by omega), e3, e5']
    omega
  unfold pk3
  rw [own_or' _ _ 16 (by decide) 65536 (by decide) (by omega) (by omega) (by omega) (by omega) (by omega), e6, e5]
  omega
theorem own_pk4 (x : Int32) (h1 : 65536 ≤ x.toInt) (h2 : x.toInt < 1114112) : (pk4 x).toInt % 4294967296 = 240 + x.toInt / 262144 + (128 + x.toInt / 4096 % 64) * 256 + (128 + x.toInt / 64 % 64) * 65536 + (128 + x.toInt % 64) * 16777216 := by
  have e1 : (x >>> ((18 : Int32) &&& 31)).toInt = x.toInt / 262144 := c_ishr x 18 18 (by decide)
  have e0 : (x >>> ((6 : Int32) &&& 31)).toInt = x.toInt / 64 := c_ishr x 6 6 (by decide)
  have e0' : (x >>> ((12 : Int32) &&& 31)).toInt = x.toInt / 4096 := c_ishr x 12 12 (by decide)
  have e2 : (x &&& (63 : Int32)).toInt = x.toInt % 64 := c_mask x 63 6 (by decide) (by decide)
  have e2' : ((x >>> ((6 : Int32) &&& 31)) &&& (63 : Int32)).toInt = x.toInt / 64 % 64 := by rw [← e0]; exact c_mask _ 63 6 (by decide) (by decide)
  have e2'' : ((x >>> ((12 : Int32) &&& 31)) &&& (63 : Int32)).toInt = x.toInt / 4096 % 64 := by rw [← e0']; exact c_mask _ 63 6 (by decide) (by decide)
  have e3 : ((240 : Int32) ||| (x >>> ((18 : Int32) &&& 31))).toInt = 240 + x.toInt / 262144 := by
    rw [own_or 240 _ 4 (by decide) 16 (by decide) (by decide) (by omega) (by omega) (by decide) (by rw [show (240 : Int32).toInt = 240 from rfl]; omega), e1]; rfl
  have e4 : ((128 : Int32) ||| (x &&& (63 : Int32))).toInt = 128 + x.toInt % 64 := by
    rw [own_or 128 _ 7 (by decide) 128 (by decide) (by decide) (by omega) (by omega) (by decide) (by rw [show (128 : Int32).toInt = 128 from rfl]; omega), e2]; rfl
  have e4' : ((128 : Int32) ||| ((x >>> ((6 : Int32) &&& 31)) &&& (63 : Int32))).toInt = 128 + x.toInt / 64 % 64 := by
    rw [own_or 128 _ 7 (by decide) 128 (by decide) (by decide) (by omega) (by omega) (by decide) (by rw [show (128 : Int32).toInt = 128 from rfl]; omega), e2']; rfl
  have e4'' : ((128 : Int32) ||| ((x >>> ((12 : Int32) &&& 31)) &&& (63 : Int32))).toInt = 128 + x.toInt / 4096 % 64 := by
    rw [own_or 128 _ 7 (by decide) 128 (by decide) (by decide) (by omega) (by omega) (by decide) (by rw [show (128 : Int32).toInt = 128 from rfl]; omega), e2'']; rfl
  have e5 := c_ishl ((128 : Int32) ||| (x &&& (63 : Int32))) 24 24 (by decide)
  rw [e4] at e5
  have e5' : (((128 : Int32) ||| ((x >>> ((6 : Int32) &&& 31)) &&& (63 : Int32))) <<< ((16 : Int32) &&& 31)).toInt = (128 + x.toInt / 64 % 64) * 65536 := by
    rw [own_shl _ 16 16 (by decide) 65536 (by decide) (by omega) (by omega), e4']
  have e5'' : (((128 : Int32) ||| ((x >>> ((12 : Int32) &&& 31)) &&& (63 : Int32))) <<< ((8 : Int32) &&& 31)).toInt = (128 + x.toInt / 4096 % 64) * 256 := by
    rw [own_shl _ 8 8 (by decide) 256 (by decide) (by omega) (by omega), e4'']
  have e6 : (((240 : Int32) ||| (x >>> ((18 : Int32) &&& 31))) ||| (((128 : Int32) ||| ((x >>> ((12 : Int32) &&& 31)) &&& (63 : Int32))) <<< ((8 : Int32) &&& 31))).toInt = 240 + x.toInt / 262144 + (128 + x.toInt / 4096 % 64) * 256 := by
    rw [own_or' _ _ 8 (by decide) 256 (by decide) (by omega) (by omega) (by omega) (by omega) (by omega), e3, e5'']
    omega
  have e7 : ((((240 : Int32) ||| (x >>> ((18 : Int32) &&& 31))) ||| (((128 : Int32) ||| ((x >>> ((12 : Int32) &&& 31)) &&& (63 : Int32))) <<< ((8 : Int32) &&& 31))) ||| (((128 : Int32) ||| ((x >>> ((6 : Int32) &&& 31)) &&& (63 : Int32))) <<< ((16 : Int32) &&& 31))).toInt = 240 + x.toInt / 262144 + (128 + x.toInt / 4096 % 64) * 256 + (128 + x.toInt / 64 % 64) * 65536 := by
    rw [own_or' _ _ 16 (by decide) 65536 (by decide) (by omega) (by omega) (by omega) (by omega) (by omega), e6, e5']
    omega
  unfold pk4
  have e8 := c_or' ((((240 : Int32) ||| (x >>> ((18 : Int32) &&& 31))) ||| (((128 : Int32) ||| ((x >>> ((12 : Int32) &&& 31)) &&& (63 : Int32))) <<< ((8 : Int32) &&& 31))) ||| (((128 : Int32) ||| ((x >>> ((6 : Int32) &&& 31)) &&& (63 : Int32))) <<< ((16 : Int32) &&& 31))) (((128 : Int32) ||| (x &&& (63 : Int32))) <<< ((24 : Int32) &&& 31)) 24 (by decide) 16777216 (by decide) (by omega) (by omega) (by omega)
  rw [e7] at e8
  omega
/-- the bytes of p -/
theorem own_b0 (p : Int32) : (p &&& (255 : Int32)).toInt = p.toInt % 256 := c_mask p 255 8 (by decide) (by decide)
theorem own_b1 (p : Int32) : (((p.toUInt32 >>> ((8 : Int32) &&& 31).toUInt32).toInt32) &&& (255 : Int32)).toInt = p.toInt % 4294967296 / 256 % 256 := by
  have e := c_iushr p 8 8 (by decide) (by decide)
  have f := c_mask ((p.toUInt32 >>> ((8 : Int32) &&& 31).toUInt32).toInt32) 255 8 (by decide) (by decide)
  rw [e] at f; exact f
theorem own_b2 (p : Int32) : (((p.toUInt32 >>> ((16 : Int32) &&& 31).toUInt32).toInt32) &&& (255 : Int32)).toInt = p.toInt % 4294967296 / 65536 % 256 := by
  have e := c_iushr p 16 16 (by decide) (by decide)
  have f := c_mask ((p.toUInt32 >>> ((16 : Int32) &&& 31).toUInt32).toInt32) 255 8 (by decide) (by decide)
  rw [e] at f; exact f
theorem own_b3 (p : Int32) : ((p.toUInt32 >>> ((24 : Int32) &&& 31).toUInt32).toInt32).toInt = p.toInt % 4294967296 / 16777216 := c_iushr p 24 24 (by decide) (by decide)
theorem own_m (x m : Int32) (k : Nat) (hk : k ≤ 31) (hm : m.toBitVec.toNat = 2 ^ k - 1) (K : Int) (hK : K = (2 ^ k : Nat)) : (x &&& m).toInt = x.toInt % K := by rw [hK]; exact c_mask x m k hk hm
theorem own_back2 (x b0 b1 : Int32) (h0 : b0.toInt = 192 + x.toInt / 64) (h1 : b1.toInt = 128 + x.toInt % 64) (q1 : 0 ≤ x.toInt) (q2 : x.toInt < 2048) : (((b0 &&& (31 : Int32)) <<< ((6 : Int32) &&& 31)) ||| (b1 &&& (63 : Int32))) = x := by
  have e0 : (b0 &&& (31 : Int32)).toInt = x.toInt / 64 := by rw [own_m b0 31 5 (by decide) (by decide) 32 (by decide)]; omega
  have e1 : (b1 &&& (63 : Int32)).toInt = x.toInt % 64 := by rw [own_m b1 63 6 (by decide) (by decide) 64 (by decide)]; omega
  have e2 : ((b0 &&& (31 : Int32)) <<< ((6 : Int32) &&& 31)).toInt = x.toInt / 64 * 64 := by rw [own_shl _ 6 6 (by decide) 64 (by decide) (by omega) (by omega), e0]
  apply Int32.toInt_inj.mp
  rw [own_or _ _ 6 (by decide) 64 (by decide) (by omega) (by omega) (by omega) (by omega) (by omega)]
  omega
theorem own_back3 (x b0 b1 b2 : Int32) (h0 : b0.toInt = 224 + x.toInt / 4096) (h1 : b1.toInt = 128 + x.toInt / 64 % 64) (h2 : b2.toInt = 128 + x.toInt % 64) (q1 : 0 ≤ x.toInt) (q2 : x.toInt < 65536) : ((((b0 &&& (15 : Int32)) <<< ((12 : Int32) &&& 31)) ||| ((b1 &&& (63 : Int32)) <<< ((6 : Int32) &&& 31))) ||| (b2 &&& (63 : Int32))) = x := by
  have e0 : (b0 &&& (15 : Int32)).toInt = x.toInt / 4096 := by rw [own_m b0 15 4 (by decide) (by decide) 16 (by decide)]; omega
  have e1 : (b1 &&& (63 : Int32)).toInt = x.toInt / 64 % 64 := by rw [own_m b1 63 6 (by decide) (by decide) 64 (by decide)]; omega
  have e2 : (b2 &&& (63 : Int32)).toInt = x.toInt % 64 := by rw [own_m b2 63 6 (by decide) (by decide) 64 (by decide)]; omega
  have f0 : ((b0 &&& (15 : Int32)) <<< ((12 : Int32) &&& 31)).toInt = x.toInt / 4096 * 4096 := by rw [own_shl _ 12 12 (by decide) 4096 (by decide) (by omega) (by omega), e0]
  have f1 : ((b1 &&& (63 : Int32)) <<< ((6 : Int32) &&& 31)).toInt = x.toInt / 64 % 64 * 64 := by rw [own_shl _ 6 6 (by decide) 64 (by decide) (by omega) (by omega), e1]
  have g0 : (((b0 &&& (15 : Int32)) <<< ((12 : Int32) &&& 31)) ||| ((b1 &&& (63 : Int32)) <<< ((6 : Int32) &&& 31))).toInt = x.toInt / 4096 * 4096 + x.toInt / 64 % 64 * 64 := by
    rw [own_or _ _ 12 (by decide) 4096 (by decide) (by omega) (by omega) (by omega) (by omega) (by omega)]
    omega
  apply Int32.toInt_inj.mp
  rw [own_or _ _ 6 (by decide) 64 (by decide) (by omega) (by omega) (by omega) (by omega) (by omega)]
  omega
theorem own_back4 (x b0 b1 b2 b3 : Int32) (h0 : b0.toInt = 240 + x.toInt / 262144) (h1 : b1.toInt = 128 + x.toInt / 4096 % 64) (h2 : b2.toInt = 128 + x.toInt / 64 % 64) (h3 : b3.toInt = 128 + x.toInt % 64) (q1 : 0 ≤ x.toInt) (q2 : x.toInt < 1114112) : (((((b0 &&& (7 : Int32)) <<< ((18 : Int32) &&& 31)) ||| ((b1 &&& (63 : Int32)) <<< ((12 : Int32) &&& 31))) ||| ((b2 &&& (63 : Int32)) <<< ((6 : Int32) &&& 31))) ||| (b3 &&& (63 : Int32))) = x := by
  have e0 : (b0 &&& (7 : Int32)).toInt = x.toInt / 262144 := by rw [own_m b0 7 3 (by decide) (by decide) 8 (by decide)]; omega
  have e1 : (b1 &&& (63 : Int32)).toInt = x.toInt / 4096 % 64 := by rw [own_m b1 63 6 (by decide) (by decide) 64 (by decide)]; omega
  have e2 : (b2 &&& (63 : Int32)).toInt = x.toInt / 64 % 64 := by rw [own_m b2 63 6 (by decide) (by decide) 64 (by decide)]; omega
  have e3 : (b3 &&& (63 : Int32)).toInt = x.toInt % 64 := by rw [own_m b3 63 6 (by decide) (by decide) 64 (by decide)]; omega
  have f0 : ((b0 &&& (7 : Int32)) <<< ((18 : Int32) &&& 31)).toInt = x.toInt / 262144 * 262144 := by rw [own_shl _ 18 18 (by decide) 262144 (by decide) (by omega) (by omega), e0]
  have f1 : ((b1 &&& (63 : Int32)) <<< ((12 : Int32) &&& 31)).toInt = x.toInt / 4096 % 64 * 4096 := by rw [own_shl _ 12 12 (by decide) 4096 (by decide) (by omega) (by omega), e1]
  have f2 : ((b2 &&& (63 : Int32)) <<< ((6 : Int32) &&& 31)).toInt = x.toInt / 64 % 64 * 64 := by rw [own_shl _ 6 6 (by decide) 64 (by decide) (by omega) (by omega), e2]
  have g0 : (((b0 &&& (7 : Int32)) <<< ((18 : Int32) &&& 31)) ||| ((b1 &&& (63 : Int32)) <<< ((12 : Int32) &&& 31))).toInt = x.toInt / 262144 * 262144 + x.toInt / 4096 % 64 * 4096 := by
    rw [own_or _ _ 18 (by decide) 262144 (by decide) (by omega) (by omega) (by omega) (by omega) (by omega)]
    omega
  have g1 : ((((b0 &&& (7 : Int32)) <<< ((18 : Int32) &&& 31)) ||| ((b1 &&& (63 : Int32)) <<< ((12 : Int32) &&& 31))) ||| ((b2 &&& (63 : Int32)) <<< ((6 : Int32) &&& 31))).toInt = x.toInt / 262144 * 262144 + x.toInt / 4096 % 64 * 4096 + x.toInt / 64 % 64 * 64 := by
    rw [own_or _ _ 12 (by decide) 4096 (by decide) (by omega) (by omega) (by omega) (by omega) (by omega)]
    omega
  apply Int32.toInt_inj.mp
  rw [own_or _ _ 6 (by decide) 64 (by decide) (by omega) (by omega) (by omega) (by omega) (by omega)]
  omega
theorem own_m256 (x : Int) : x % 256 = x % 4294967296 % 256 := by omega
theorem own_by0 (A B C D : Int) (a1 : 0 ≤ A) (a2 : A < 256) : (A + B * 256 + C * 65536 + D * 16777216) % 256 = A := by omega
theorem own_by1 (A B C D : Int) (a1 : 0 ≤ A) (a2 : A < 256) (b1 : 0 ≤ B) (b2 : B < 256) : (A + B * 256 + C * 65536 + D * 16777216) / 256 % 256 = B := by omega
theorem own_by2 (A B C D : Int) (a1 : 0 ≤ A) (a2 : A < 256) (b1 : 0 ≤ B) (b2 : B < 256) (c1 : 0 ≤ C) (c2 : C < 256) : (A + B * 256 + C * 65536 + D * 16777216) / 65536 % 256 = C := by omega
theorem own_by3 (A B C D : Int) (a1 : 0 ≤ A) (a2 : A < 256) (b1 : 0 ≤ B) (b2 : B < 256) (c1 : 0 ≤ C) (c2 : C < 256) : (A + B * 256 + C * 65536 + D * 16777216) / 16777216 = D := by omega
def pkF (x : Int32) : Int32 := if x < 128 then x else if x < 2048 then pk2 x else if ¬ x < 55296 ∧ ¬ 57343 < x then 63 else if x < 65536 then pk3 x else pk4 x
theorem own_cp (x : Int32) : 0 ≤ ((x &&& (2147483647 : Int32)) % (1114112 : Int32)).toInt ∧ ((x &&& (2147483647 : Int32)) % (1114112 : Int32)).toInt < 1114112 := by
  have e := c_mask x 2147483647 31 (by decide) (by decide)
  have f := (c_irem (x &&& (2147483647 : Int32)) 1114112 1114112 rfl).1 (by omega)
  rw [f]; omega
theorem d1_0 : decode prog_100_method_3_code 0 = .ok (.iload_n 0, 1) := by decide +kernel
theorem d1_1 : decode prog_100_method_3_code 1 = .ok (.sipush 128, 3) := by decide +kernel
theorem d1_4 : decode prog_100_method_3_code 4 = .ok (.if_icmp .ge 5, 3) := by decide +kernel
theorem d1_7 : decode prog_100_method_3_code 7 = .ok (.iload_n 0, 1) := by decide +kernel
theorem d1_8 : decode prog_100_method_3_code 8 = .ok (.ireturn, 1) := by decide +kernel
theorem d1_9 : decode prog_100_method_3_code 9 = .ok (.iload_n 0, 1) := by decide +kernel
theorem d1_10 : decode prog_100_method_3_code 10 = .ok (.sipush 2048, 3) := by decide +kernel
theorem d1_13 : decode prog_100_method_3_code 13 = .ok (.if_icmp .ge 24, 3) := by decide +kernel
theorem d1_16 : decode prog_100_method_3_code 16 = .ok (.sipush 192, 3) := by decide +kernel
theorem d1_19 : decode prog_100_method_3_code 19 = .ok (.iload_n 0, 1) := by decide +kernel
theorem d1_20 : decode prog_100_method_3_code 20 = .ok (.bipush 6, 2) := by decide +kernel
theorem d1_22 : decode prog_100_method_3_code 22 = .ok (.ishr, 1) := by decide +kernel
theorem d1_23 : decode prog_100_method_3_code 23 = .ok (.ior, 1) := by decide +kernel
theorem d1_24 : decode prog_100_method_3_code 24 = .ok (.sipush 128, 3) := by decide +kernel
theorem d1_27 : decode prog_100_method_3_code 27 = .ok (.iload_n 0, 1) := by decide +kernel
theorem d1_28 : decode prog_100_method_3_code 28 = .ok (.bipush 63, 2) := by decide +kernel
theorem d1_30 : decode prog_100_method_3_code 30 = .ok (.iand, 1) := by decide +kernel
theorem d1_31 : decode prog_100_method_3_code 31 = .ok (.ior, 1) := by decide +kernel
theorem d1_32 : decode prog_100_method_3_code 32 = .ok (.bipush 8, 2) := by decide +kernel
theorem d1_34 : decode prog_100_method_3_code 34 = .ok (.ishl, 1) := by decide +kernel
theorem d1_35 : decode prog_100_method_3_code 35 = .ok (.ior, 1) := by decide +kernel
theorem d1_36 : decode prog_100_method_3_code 36 = .ok (.ireturn, 1) := by decide +kernel
theorem d1_37 : decode prog_100_method_3_code 37 = .ok (.iload_n 0, 1) := by decide +kernel
theorem d1_38 : decode prog_100_method_3_code 38 = .ok (.ldc 20, 2) := by decide +kernel
theorem d1_40 : decode prog_100_method_3_code 40 = .ok (.if_icmp .lt 12, 3) := by decide +kernel
theorem d1_43 : decode prog_100_method_3_code 43 = .ok (.iload_n 0, 1) := by decide +kernel
theorem d1_44 : decode prog_100_method_3_code 44 = .ok (.ldc 21, 2) := by decide +kernel
theorem d1_46 : decode prog_100_method_3_code 46 = .ok (.if_icmp .gt 6, 3) := by decide +kernel
theorem d1_49 : decode prog_100_method_3_code 49 = .ok (.bipush 63, 2) := by decide +kernel
theorem d1_51 : decode prog_100_method_3_code 51 = .ok (.ireturn, 1) := by decide +kernel
theorem d1_52 : decode prog_100_method_3_code 52 = .ok (.iload_n 0, 1) := by decide +kernel
theorem d1_53 : decode prog_100_method_3_code 53 = .ok (.ldc 22, 2) := by decide +kernel
theorem d1_55 : decode prog_100_method_3_code 55 = .ok (.if_icmp .ge 39, 3) := by decide +kernel
theorem d1_58 : decode prog_100_method_3_code 58 = .ok (.sipush 224, 3) := by decide +kernel
theorem d1_61 : decode prog_100_method_3_code 61 = .ok (.iload_n 0, 1) := by decide +kernel
theorem d1_62 : decode prog_100_method_3_code 62 = .ok (.bipush 12, 2) := by decide +kernel
theorem d1_64 : decode prog_100_method_3_code 64 = .ok (.ishr, 1) := by decide +kernel
theorem d1_65 : decode prog_100_method_3_code 65 = .ok (.ior, 1) := by decide +kernel
theorem d1_66 : decode prog_100_method_3_code 66 = .ok (.sipush 128, 3) := by decide +kernel
theorem d1_69 : decode prog_100_method_3_code 69 = .ok (.iload_n 0, 1) := by decide +kernel
theorem d1_70 : decode prog_100_method_3_code 70 = .ok (.bipush 6, 2) := by decide +kernel
theorem d1_72 : decode prog_100_method_3_code 72 = .ok (.ishr, 1) := by decide +kernel
theorem d1_73 : decode prog_100_method_3_code 73 = .ok (.bipush 63, 2) := by decide +kernel
theorem d1_75 : decode prog_100_method_3_code 75 = .ok (.iand, 1) := by decide +kernel
theorem d1_76 : decode prog_100_method_3_code 76 = .ok (.ior, 1) := by decide +kernel
theorem d1_77 : decode prog_100_method_3_code 77 = .ok (.bipush 8, 2) := by decide +kernel
theorem d1_79 : decode prog_100_method_3_code 79 = .ok (.ishl, 1) := by decide +kernel
theorem d1_80 : decode prog_100_method_3_code 80 = .ok (.ior, 1) := by decide +kernel
theorem d1_81 : decode prog_100_method_3_code 81 = .ok (.sipush 128, 3) := by decide +kernel
theorem d1_84 : decode prog_100_method_3_code 84 = .ok (.iload_n 0, 1) := by decide +kernel
theorem d1_85 : decode prog_100_method_3_code 85 = .ok (.bipush 63, 2) := by decide +kernel
theorem d1_87 : decode prog_100_method_3_code 87 = .ok (.iand, 1) := by decide +kernel
theorem d1_88 : decode prog_100_method_3_code 88 = .ok (.ior, 1) := by decide +kernel
theorem d1_89 : decode prog_100_method_3_code 89 = .ok (.bipush 16, 2) := by decide +kernel
theorem d1_91 : decode prog_100_method_3_code 91 = .ok (.ishl, 1) := by decide +kernel
theorem d1_92 : decode prog_100_method_3_code 92 = .ok (.ior, 1) := by decide +kernel
theorem d1_93 : decode prog_100_method_3_code 93 = .ok (.ireturn, 1) := by decide +kernel
theorem d1_94 : decode prog_100_method_3_code 94 = .ok (.sipush 240, 3) := by decide +kernel
theorem d1_97 : decode prog_100_method_3_code 97 = .ok (.iload_n 0, 1) := by decide +kernel
theorem d1_98 : decode prog_100_method_3_code 98 = .ok (.bipush 18, 2) := by decide +kernel
theorem d1_100 : decode prog_100_method_3_code 100 = .ok (.ishr, 1) := by decide +kernel
theorem d1_101 : decode prog_100_method_3_code 101 = .ok (.ior, 1) := by decide +kernel
theorem d1_102 : decode prog_100_method_3_code 102 = .ok (.sipush 128, 3) := by decide +kernel
theorem d1_105 : decode prog_100_method_3_code 105 = .ok (.iload_n 0, 1) := by decide +kernel
theorem d1_106 : decode prog_100_method_3_code 106 = .ok (.bipush 12, 2) := by decide +kernel
theorem d1_108 : decode prog_100_method_3_code 108 = .ok (.ishr, 1) := by decide +kernel
theorem d1_109 : decode prog_100_method_3_code 109 = .ok (.bipush 63, 2) := by decide +kernel
theorem d1_111 : decode prog_100_method_3_code 111 = .ok (.iand, 1) := by decide +kernel
theorem d1_112 : decode prog_100_method_3_code 112 = .ok (.ior, 1) := by decide +kernel
theorem d1_113 : decode prog_100_method_3_code 113 = .ok (.bipush 8, 2) := by decide +kernel
theorem d1_115 : decode prog_100_method_3_code 115 = .ok (.ishl, 1) := by decide +kernel
theorem d1_116 : decode prog_100_method_3_code 116 = .ok (.ior, 1) := by decide +kernel
theorem d1_117 : decode prog_100_method_3_code 117 = .ok (.sipush 128, 3) := by decide +kernel
theorem d1_120 : decode prog_100_method_3_code 120 = .ok (.iload_n 0, 1) := by decide +kernel
theorem d1_121 : decode prog_100_method_3_code 121 = .ok (.bipush 6, 2) := by decide +kernel
theorem d1_123 : decode prog_100_method_3_code 123 = .ok (.ishr, 1) := by decide +kernel
theorem d1_124 : decode prog_100_method_3_code 124 = .ok (.bipush 63, 2) := by decide +kernel
theorem d1_126 : decode prog_100_method_3_code 126 = .ok (.iand, 1) := by decide +kernel
theorem d1_127 : decode prog_100_method_3_code 127 = .ok (.ior, 1) := by decide +kernel
theorem d1_128 : decode prog_100_method_3_code 128 = .ok (.bipush 16, 2) := by decide +kernel
theorem d1_130 : decode prog_100_method_3_code 130 = .ok (.ishl, 1) := by decide +kernel
theorem d1_131 : decode prog_100_method_3_code 131 = .ok (.ior, 1) := by decide +kernel
theorem d1_132 : decode prog_100_method_3_code 132 = .ok (.sipush 128, 3) := by decide +kernel
theorem d1_135 : decode prog_100_method_3_code 135 = .ok (.iload_n 0, 1) := by decide +kernel
theorem d1_136 : decode prog_100_method_3_code 136 = .ok (.bipush 63, 2) := by decide +kernel
theorem d1_138 : decode prog_100_method_3_code 138 = .ok (.iand, 1) := by decide +kernel
theorem d1_139 : decode prog_100_method_3_code 139 = .ok (.ior, 1) := by decide +kernel
theorem d1_140 : decode prog_100_method_3_code 140 = .ok (.bipush 24, 2) := by decide +kernel
theorem d1_142 : decode prog_100_method_3_code 142 = .ok (.ishl, 1) := by decide +kernel
theorem d1_143 : decode prog_100_method_3_code 143 = .ok (.ior, 1) := by decide +kernel
theorem d1_144 : decode prog_100_method_3_code 144 = .ok (.ireturn, 1) := by decide +kernel
set_option maxRecDepth 65536 in
set_option maxHeartbeats 40000000 in
theorem con_packed (l : Launch) (Z : State) (a0 : Array Value) (hw : ∀ d ∈ tables_1, d.before a0 Z = true) (ws : List Jvm.Cond) (h0 : Heap) (n0 : Nat) (x : Int32) :
    Con l (⟨"com/example/garblescore/garblescore/io/Utf8", "packed", "(I)I"⟩ : MethodName) prog_100_method_3_code 1 (some .int) ({ frames := 0, cells := 0, slots := 0, locals := 0 } : Room) ws Z #[(.int x)] h0 n0 (fun v h => v = some (.int (pkF x)) ∧ h0 = h) := by
  refine Con.of (plainFor_of_name pn0) ?_
  intro p e s m below meth c T X nm
  rw [show entryFrame m #[(.int x)] 1 = mkF m 0 #[.val (.int x)] [] from by (first | (simp [entryFrame, mkF, argsToLocals, Value.category]; done) | rfl)]
  refine Wk.iloadN X d1_0 1 rfl rfl ?_
  refine Wk.sipush X d1_1 4 rfl (128 : Int32) rfl ?_
  refine Wk.icmp X d1_4 9 7 (by decide) rfl ?_ ?_
  · intro h1; change ¬ x < (128 : Int32) at h1
    refine Wk.iloadN X d1_9 10 rfl rfl ?_
    refine Wk.sipush X d1_10 13 rfl (2048 : Int32) rfl ?_
    refine Wk.icmp X d1_13 37 16 (by decide) rfl ?_ ?_
    · intro h2; change ¬ x < (2048 : Int32) at h2
      refine Wk.iloadN X d1_37 38 rfl rfl ?_
      refine Wk.ldcInt X (t6 hw) d1_38 40 rfl ?_
      refine Wk.icmp X d1_40 52 43 (by decide) rfl ?_ ?_
      · intro h3; change x < (55296 : Int32) at h3
        refine Wk.iloadN X d1_52 53 rfl rfl ?_
        refine Wk.ldcInt X (t8 hw) d1_53 55 rfl ?_
        refine Wk.icmp X d1_55 94 58 (by decide) rfl ?_ ?_
        · intro h5; change ¬ x < (65536 : Int32) at h5
          refine Wk.sipush X d1_94 97 rfl (240 : Int32) rfl ?_
          refine Wk.iloadN X d1_97 98 rfl rfl ?_
          refine Wk.bipush X d1_98 100 rfl (18 : Int32) rfl ?_
          refine Wk.ishr X d1_100 101 rfl ?_
          refine Wk.ior X d1_101 102 rfl ?_
          refine Wk.sipush X d1_102 105 rfl (128 : Int32) rfl ?_
          refine Wk.iloadN X d1_105 106 rfl rfl ?_
          refine Wk.bipush X d1_106 108 rfl (12 : Int32) rfl ?_
          refine Wk.ishr X d1_108 109 rfl ?_
          refine Wk.bipush X d1_109 111 rfl (63 : Int32) rfl ?_
          refine Wk.iand X d1_111 112 rfl ?_
          refine Wk.ior X d1_112 113 rfl ?_
          refine Wk.bipush X d1_113 115 rfl (8 : Int32) rfl ?_
          refine Wk.ishl X d1_115 116 rfl ?_
          refine Wk.ior X d1_116 117 rfl ?_
          refine Wk.sipush X d1_117 120 rfl (128 : Int32) rfl ?_
          refine Wk.iloadN X d1_120 121 rfl rfl ?_
          refine Wk.bipush X d1_121 123 rfl (6 : Int32) rfl ?_
          refine Wk.ishr X d1_123 124 rfl ?_
          refine Wk.bipush X d1_124 126 rfl (63 : Int32) rfl ?_
          refine Wk.iand X d1_126 127 rfl ?_
          refine Wk.ior X d1_127 128 rfl ?_
          refine Wk.bipush X d1_128 130 rfl (16 : Int32) rfl ?_
          refine Wk.ishl X d1_130 131 rfl ?_
          refine Wk.ior X d1_131 132 rfl ?_
          refine Wk.sipush X d1_132 135 rfl (128 : Int32) rfl ?_
          refine Wk.iloadN X d1_135 136 rfl rfl ?_
          refine Wk.bipush X d1_136 138 rfl (63 : Int32) rfl ?_
          refine Wk.iand X d1_138 139 rfl ?_
          refine Wk.ior X d1_139 140 rfl ?_
          refine Wk.bipush X d1_140 142 rfl (24 : Int32) rfl ?_
          refine Wk.ishl X d1_142 143 rfl ?_
          refine Wk.ior X d1_143 144 rfl ?_
          exact Wk.ireturn X d1_144 (by decide) (by decide) ⟨(by rw [show pkF x = pk4 x from by simp [pkF, h1, h2, h3, h5]] <;> rfl), rfl⟩
        · intro h5; change x < (65536 : Int32) at h5
          refine Wk.sipush X d1_58 61 rfl (224 : Int32) rfl ?_
          refine Wk.iloadN X d1_61 62 rfl rfl ?_
          refine Wk.bipush X d1_62 64 rfl (12 : Int32) rfl ?_
          refine Wk.ishr X d1_64 65 rfl ?_
          refine Wk.ior X d1_65 66 rfl ?_
          refine Wk.sipush X d1_66 69 rfl (128 : Int32) rfl ?_
          refine Wk.iloadN X d1_69 70 rfl rfl ?_
          refine Wk.bipush X d1_70 72 rfl (6 : Int32) rfl ?_
          refine Wk.ishr X d1_72 73 rfl ?_
          refine Wk.bipush X d1_73 75 rfl (63 : Int32) rfl ?_
          refine Wk.iand X d1_75 76 rfl ?_
          refine Wk.ior X d1_76 77 rfl ?_
          refine Wk.bipush X d1_77 79 rfl (8 : Int32) rfl ?_
          refine Wk.ishl X d1_79 80 rfl ?_
          refine Wk.ior X d1_80 81 rfl ?_
          refine Wk.sipush X d1_81 84 rfl (128 : Int32) rfl ?_
          refine Wk.iloadN X d1_84 85 rfl rfl ?_
          refine Wk.bipush X d1_85 87 rfl (63 : Int32) rfl ?_
          refine Wk.iand X d1_87 88 rfl ?_
          refine Wk.ior X d1_88 89 rfl ?_
          refine Wk.bipush X d1_89 91 rfl (16 : Int32) rfl ?_
          refine Wk.ishl X d1_91 92 rfl ?_
          refine Wk.ior X d1_92 93 rfl ?_
          exact Wk.ireturn X d1_93 (by decide) (by decide) ⟨(by rw [show pkF x = pk3 x from by simp [pkF, h1, h2, h3, h5]] <;> rfl), rfl⟩
      · intro h3; change ¬ x < (55296 : Int32) at h3
        refine Wk.iloadN X d1_43 44 rfl rfl ?_
        refine Wk.ldcInt X (t7 hw) d1_44 46 rfl ?_
        refine Wk.icmp X d1_46 52 49 (by decide) rfl ?_ ?_
        · intro h4; change (57343 : Int32) < x at h4
          refine Wk.iloadN X d1_52 53 rfl rfl ?_
          refine Wk.ldcInt X (t8 hw) d1_53 55 rfl ?_
          refine Wk.icmp X d1_55 94 58 (by decide) rfl ?_ ?_
          · intro h5; change ¬ x < (65536 : Int32) at h5
            refine Wk.sipush X d1_94 97 rfl (240 : Int32) rfl ?_
            refine Wk.iloadN X d1_97 98 rfl rfl ?_
            refine Wk.bipush X d1_98 100 rfl (18 : Int32) rfl ?_
            refine Wk.ishr X d1_100 101 rfl ?_
            refine Wk.ior X d1_101 102 rfl ?_
            refine Wk.sipush X d1_102 105 rfl (128 : Int32) rfl ?_
            refine Wk.iloadN X d1_105 106 rfl rfl ?_
            refine Wk.bipush X d1_106 108 rfl (12 : Int32) rfl ?_
            refine Wk.ishr X d1_108 109 rfl ?_
            refine Wk.bipush X d1_109 111 rfl (63 : Int32) rfl ?_
            refine Wk.iand X d1_111 112 rfl ?_
            refine Wk.ior X d1_112 113 rfl ?_
            refine Wk.bipush X d1_113 115 rfl (8 : Int32) rfl ?_
            refine Wk.ishl X d1_115 116 rfl ?_
            refine Wk.ior X d1_116 117 rfl ?_
            refine Wk.sipush X d1_117 120 rfl (128 : Int32) rfl ?_
            refine Wk.iloadN X d1_120 121 rfl rfl ?_
            refine Wk.bipush X d1_121 123 rfl (6 : Int32) rfl ?_
            refine Wk.ishr X d1_123 124 rfl ?_
            refine Wk.bipush X d1_124 126 rfl (63 : Int32) rfl ?_
            refine Wk.iand X d1_126 127 rfl ?_
            refine Wk.ior X d1_127 128 rfl ?_
            refine Wk.bipush X d1_128 130 rfl (16 : Int32) rfl ?_
            refine Wk.ishl X d1_130 131 rfl ?_
            refine Wk.ior X d1_131 132 rfl ?_
            refine Wk.sipush X d1_132 135 rfl (128 : Int32) rfl ?_
            refine Wk.iloadN X d1_135 136 rfl rfl ?_
            refine Wk.bipush X d1_136 138 rfl (63 : Int32) rfl ?_
            refine Wk.iand X d1_138 139 rfl ?_
            refine Wk.ior X d1_139 140 rfl ?_
            refine Wk.bipush X d1_140 142 rfl (24 : Int32) rfl ?_
            refine Wk.ishl X d1_142 143 rfl ?_
            refine Wk.ior X d1_143 144 rfl ?_
            exact Wk.ireturn X d1_144 (by decide) (by decide) ⟨(by rw [show pkF x = pk4 x from by simp [pkF, h1, h2, h3, h4, h5]] <;> rfl), rfl⟩
          · intro h5; change x < (65536 : Int32) at h5
            refine Wk.sipush X d1_58 61 rfl (224 : Int32) rfl ?_
            refine Wk.iloadN X d1_61 62 rfl rfl ?_
            refine Wk.bipush X d1_62 64 rfl (12 : Int32) rfl ?_
            refine Wk.ishr X d1_64 65 rfl ?_
            refine Wk.ior X d1_65 66 rfl ?_
            refine Wk.sipush X d1_66 69 rfl (128 : Int32) rfl ?_
            refine Wk.iloadN X d1_69 70 rfl rfl ?_
            refine Wk.bipush X d1_70 72 rfl (6 : Int32) rfl ?_
            refine Wk.ishr X d1_72 73 rfl ?_
            refine Wk.bipush X d1_73 75 rfl (63 : Int32) rfl ?_
            refine Wk.iand X d1_75 76 rfl ?_
            refine Wk.ior X d1_76 77 rfl ?_
            refine Wk.bipush X d1_77 79 rfl (8 : Int32) rfl ?_
            refine Wk.ishl X d1_79 80 rfl ?_
            refine Wk.ior X d1_80 81 rfl ?_
            refine Wk.sipush X d1_81 84 rfl (128 : Int32) rfl ?_
            refine Wk.iloadN X d1_84 85 rfl rfl ?_
            refine Wk.bipush X d1_85 87 rfl (63 : Int32) rfl ?_
            refine Wk.iand X d1_87 88 rfl ?_
            refine Wk.ior X d1_88 89 rfl ?_
            refine Wk.bipush X d1_89 91 rfl (16 : Int32) rfl ?_
            refine Wk.ishl X d1_91 92 rfl ?_
            refine Wk.ior X d1_92 93 rfl ?_
            exact Wk.ireturn X d1_93 (by decide) (by decide) ⟨(by rw [show pkF x = pk3 x from by simp [pkF, h1, h2, h3, h4, h5]] <;> rfl), rfl⟩
        · intro h4; change ¬ (57343 : Int32) < x at h4
          refine Wk.bipush X d1_49 51 rfl (63 : Int32) rfl ?_
          exact Wk.ireturn X d1_51 (by decide) (by decide) ⟨(by rw [show pkF x = 63 from by simp [pkF, h1, h2, h3, h4]] <;> rfl), rfl⟩
    · intro h2; change x < (2048 : Int32) at h2
      refine Wk.sipush X d1_16 19 rfl (192 : Int32) rfl ?_
      refine Wk.iloadN X d1_19 20 rfl rfl ?_
      refine Wk.bipush X d1_20 22 rfl (6 : Int32) rfl ?_
      refine Wk.ishr X d1_22 23 rfl ?_
      refine Wk.ior X d1_23 24 rfl ?_
      refine Wk.sipush X d1_24 27 rfl (128 : Int32) rfl ?_
      refine Wk.iloadN X d1_27 28 rfl rfl ?_
      refine Wk.bipush X d1_28 30 rfl (63 : Int32) rfl ?_
      refine Wk.iand X d1_30 31 rfl ?_
      refine Wk.ior X d1_31 32 rfl ?_
      refine Wk.bipush X d1_32 34 rfl (8 : Int32) rfl ?_
      refine Wk.ishl X d1_34 35 rfl ?_
      refine Wk.ior X d1_35 36 rfl ?_
      exact Wk.ireturn X d1_36 (by decide) (by decide) ⟨(by rw [show pkF x = pk2 x from by simp [pkF, h1, h2]] <;> rfl), rfl⟩
  · intro h1; change x < (128 : Int32) at h1
    refine Wk.iloadN X d1_7 8 rfl rfl ?_
    exact Wk.ireturn X d1_8 (by decide) (by decide) ⟨(by rw [show pkF x = x from by simp [pkF, h1]] <;> rfl), rfl⟩
theorem d4_0 : decode method_3_code 0 = .ok (.iload_n 0, 1) := by decide +kernel
theorem d4_1 : decode method_3_code 1 = .ok (.sipush 192, 3) := by decide +kernel
theorem d4_4 : decode method_3_code 4 = .ok (.iand, 1) := by decide +kernel
theorem d4_5 : decode method_3_code 5 = .ok (.sipush 128, 3) := by decide +kernel
theorem d4_8 : decode method_3_code 8 = .ok (.if_icmp .ne 7, 3) := by decide +kernel
theorem d4_11 : decode method_3_code 11 = .ok (.iconst 1, 1) := by decide +kernel
theorem d4_12 : decode method_3_code 12 = .ok (.goto 4, 3) := by decide +kernel
theorem d4_16 : decode method_3_code 16 = .ok (.ireturn, 1) := by decide +kernel
set_option maxRecDepth 65536 in
set_option maxHeartbeats 40000000 in
theorem con_cont (l : Launch) (Z : State) (a0 : Array Value) (hw : ∀ d ∈ tables_1, d.before a0 Z = true) (ws : List Jvm.Cond) (h0 : Heap) (n0 : Nat) (x : Int32) (hb : x &&& (192 : Int32) = (128 : Int32)) :
    Con l (⟨"com/example/garblescore/garblescore/io/Utf8PackedPinLaw", "cont", "(I)Z"⟩ : MethodName) method_3_code 1 (some .boolean) ({ frames := 0, cells := 0, slots := 0, locals := 0 } : Room) ws Z #[(.int x)] h0 n0 (fun v h => v = some (.int 1) ∧ h0 = h) := by
  refine Con.of (plainFor_of_name pn1) ?_
  intro p e s m below meth c T X nm
  rw [show entryFrame m #[(.int x)] 1 = mkF m 0 #[.val (.int x)] [] from by (first | (simp [entryFrame, mkF, argsToLocals, Value.category]; done) | rfl)]
  refine Wk.iloadN X d4_0 1 rfl rfl ?_
  refine Wk.sipush X d4_1 4 rfl (192 : Int32) rfl ?_
  refine Wk.iand X d4_4 5 rfl ?_
  refine Wk.sipush X d4_5 8 rfl (128 : Int32) rfl ?_
  refine Wk.icmpF X d4_8 11 rfl (show (x &&& (192 : Int32)) = (128 : Int32) from hb) ?_
  refine Wk.iconst X d4_11 12 rfl (1 : Int32) rfl ?_
  refine Wk.goto X d4_12 16 (by decide) ?_
  exact Wk.zreturn X d4_16 (by decide) (by decide) (Or.inr rfl) ⟨rfl, rfl⟩
set_option maxRecDepth 65536 in
set_option maxHeartbeats 40000000 in
theorem con_law (l : Launch) (Z : State) (a0 : Array Value) (hw : ∀ d ∈ tables_1, d.before a0 Z = true) (ws : List Jvm.Cond) (h0 : Heap) (n0 : Nat) (p0 : Int32) :
    Con l x code maxLocals ret room_1 ws Z #[(.int p0)] h0 n0 (fun v _ => v = some (.int 1)) := by
  refine Con.of (plainFor_of_name pn1) ?_
  intro p e s m below meth c T X nm
  rw [show entryFrame m #[(.int p0)] maxLocals = mkF m 0 #[.val (.int p0), .unset, .unset, .unset, .unset, .unset, .unset] [] from by (first | (simp [entryFrame, mkF, argsToLocals, Value.category, maxLocals]; done) | rfl)]
  refine Wk.iloadN X at_0 1 rfl rfl ?_
  refine Wk.ldcInt X (t0 hw) at_1 3 rfl ?_
  refine Wk.iand X at_3 4 rfl ?_
  refine Wk.ldcInt X (t1 hw) at_4 6 rfl ?_
  refine Wk.irem X at_6 7 rfl (by decide) ?_
  refine Wk.istoreN X at_7 8 rfl #[.val (.int p0), .val (.int ((p0 &&& (2147483647 : Int32)) % (1114112 : Int32))), .unset, .unset, .unset, .unset, .unset] rfl ?_
  have hb := own_cp p0
  generalize ((p0 &&& (2147483647 : Int32)) % (1114112 : Int32)) = cp at hb ⊢
  refine Wk.iloadN X at_8 9 rfl rfl ?_
  refine Wk.callS X (t2 hw) (t3 hw) (t4 hw) (t5 hw) (con_packed l Z a0 hw [] h0 n0 cp) (by decide) pd0 [(.int cp)] [] rfl rfl rfl rfl 0 (Nat.le_of_eq rfl) (by decide) (by decide) (by decide) (by decide) 0 0 rfl rfl at_9 12 rfl ?_
  rintro _ T _ X ⟨rfl, rfl⟩
  show Wk p.tables e below _ (T.setTop (mkF m 12 #[.val (.int p0), .val (.int cp), .unset, .unset, .unset, .unset, .unset] [(.int (pkF cp))]))
  generalize hp : (pkF cp) = pv
  refine Wk.istoreN X at_12 13 rfl #[.val (.int p0), .val (.int cp), .val (.int pv), .unset, .unset, .unset, .unset] rfl ?_
  refine Wk.iloadN X at_13 14 rfl rfl ?_
  refine Wk.sipush X at_14 17 rfl (255 : Int32) rfl ?_
  refine Wk.iand X at_17 18 rfl ?_
  refine Wk.istoreN X at_18 19 rfl #[.val (.int p0), .val (.int cp), .val (.int pv), .val (.int (pv &&& (255 : Int32))), .unset, .unset, .unset] rfl ?_
  refine Wk.iloadN X at_19 20 rfl rfl ?_
  refine Wk.bipush X at_20 22 rfl (8 : Int32) rfl ?_
  refine Wk.iushr X at_22 23 rfl ?_
  refine Wk.sipush X at_23 26 rfl (255 : Int32) rfl ?_
  refine Wk.iand X at_26 27 rfl ?_
  refine Wk.istore X at_27 29 rfl #[.val (.int p0), .val (.int cp), .val (.int pv), .val (.int (pv &&& (255 : Int32))), .val (.int (((pv.toUInt32 >>> ((8 : Int32) &&& 31).toUInt32).toInt32) &&& (255 : Int32))), .unset, .unset] rfl ?_
  refine Wk.iloadN X at_29 30 rfl rfl ?_
  refine Wk.bipush X at_30 32 rfl (16 : Int32) rfl ?_
  refine Wk.iushr X at_32 33 rfl ?_
  refine Wk.sipush X at_33 36 rfl (255 : Int32) rfl ?_
  refine Wk.iand X at_36 37 rfl ?_
  refine Wk.istore X at_37 39 rfl #[.val (.int p0), .val (.int cp), .val (.int pv), .val (.int (pv &&& (255 : Int32))), .val (.int (((pv.toUInt32 >>> ((8 : Int32) &&& 31).toUInt32).toInt32) &&& (255 : Int32))), .val (.int (((pv.toUInt32 >>> ((16 : Int32) &&& 31).toUInt32).toInt32) &&& (255 : Int32))), .unset] rfl ?_
  refine Wk.iloadN X at_39 40 rfl rfl ?_
  refine Wk.bipush X at_40 42 rfl (24 : Int32) rfl ?_
  refine Wk.iushr X at_42 43 rfl ?_
  refine Wk.istore X at_43 45 rfl #[.val (.int p0), .val (.int cp), .val (.int pv), .val (.int (pv &&& (255 : Int32))), .val (.int (((pv.toUInt32 >>> ((8 : Int32) &&& 31).toUInt32).toInt32) &&& (255 : Int32))), .val (.int (((pv.toUInt32 >>> ((16 : Int32) &&& 31).toUInt32).toInt32) &&& (255 : Int32))), .val (.int ((pv.toUInt32 >>> ((24 : Int32) &&& 31).toUInt32).toInt32))] rfl ?_
  refine Wk.iloadN X at_45 46 rfl rfl ?_
  refine Wk.sipush X at_46 49 rfl (128 : Int32) rfl ?_
  refine Wk.icmp X at_49 63 52 (by decide) rfl ?_ ?_
  · intro h1; change ¬ cp < (128 : Int32) at h1
    refine Wk.join (T.setTop (mkF m 87 #[.val (.int p0), .val (.int cp), .val (.int pv), .val (.int (pv &&& (255 : Int32))), .val (.int (((pv.toUInt32 >>> ((8 : Int32) &&& 31).toUInt32).toInt32) &&& (255 : Int32))), .val (.int (((pv.toUInt32 >>> ((16 : Int32) &&& 31).toUInt32).toInt32) &&& (255 : Int32))), .val (.int ((pv.toUInt32 >>> ((24 : Int32) &&& 31).toUInt32).toInt32))] [])) (cp < (55296 : Int32) ∨ (57343 : Int32) < cp) ?_ ?_
    · intro hj
      refine Wk.iloadN X at_87 88 rfl rfl ?_
      refine Wk.sipush X at_88 91 rfl (2048 : Int32) rfl ?_
      refine Wk.icmp X at_91 146 94 (by decide) rfl ?_ ?_
      · intro h5; change ¬ cp < (2048 : Int32) at h5
        refine Wk.iloadN X at_146 147 rfl rfl ?_
        refine Wk.ldcInt X (t11 hw) at_147 149 rfl ?_
        refine Wk.icmp X at_149 216 152 (by decide) rfl ?_ ?_
        · intro h6; change ¬ cp < (65536 : Int32) at h6
          have k1 : 65536 ≤ cp.toInt := by simp only [Int32.lt_iff_toInt_lt, Int32.reduceToInt] at h6; omega
          have ev : pv.toInt % 4294967296 = 240 + cp.toInt / 262144 + (128 + cp.toInt / 4096 % 64) * 256 + (128 + cp.toInt / 64 % 64) * 65536 + (128 + cp.toInt % 64) * 16777216 := by rw [← hp, show pkF cp = pk4 cp from by rcases hj with hj | hj <;> simp [pkF, h1, h5, h6, hj]]; exact own_pk4 cp k1 hb.2
          have q0 := own_b0 pv
          have q1 := own_b1 pv
          have q2 := own_b2 pv
          have q3 := own_b3 pv
          generalize (pv &&& (255 : Int32)) = b0 at q0 ⊢
          generalize (((pv.toUInt32 >>> ((8 : Int32) &&& 31).toUInt32).toInt32) &&& (255 : Int32)) = b1 at q1 ⊢
          generalize (((pv.toUInt32 >>> ((16 : Int32) &&& 31).toUInt32).toInt32) &&& (255 : Int32)) = b2 at q2 ⊢
          generalize ((pv.toUInt32 >>> ((24 : Int32) &&& 31).toUInt32).toInt32) = b3 at q3 ⊢
          have ef : pv.toInt % 4294967296 = (240 + cp.toInt / 262144) + (128 + cp.toInt / 4096 % 64) * 256 + (128 + cp.toInt / 64 % 64) * 65536 + (128 + cp.toInt % 64) * 16777216 := ev
          have r0 : b0.toInt = 240 + cp.toInt / 262144 := by rw [q0, own_m256, ef]; exact own_by0 _ _ _ _ (by omega) (by omega)
          have r1 : b1.toInt = 128 + cp.toInt / 4096 % 64 := by rw [q1, ef]; exact own_by1 _ _ _ _ (by omega) (by omega) (by omega) (by omega)
          have r2 : b2.toInt = 128 + cp.toInt / 64 % 64 := by rw [q2, ef]; exact own_by2 _ _ _ _ (by omega) (by omega) (by omega) (by omega) (by omega) (by omega)
          have r3 : b3.toInt = 128 + cp.toInt % 64 := by rw [q3, ef]; exact own_by3 _ _ _ _ (by omega) (by omega) (by omega) (by omega) (by omega) (by omega)
          refine Wk.iloadN X at_216 217 rfl rfl ?_
          refine Wk.sipush X at_217 220 rfl (248 : Int32) rfl ?_
          refine Wk.iand X at_220 221 rfl ?_
          refine Wk.sipush X at_221 224 rfl (240 : Int32) rfl ?_
          refine Wk.icmpF X at_224 227 rfl (show (b0 &&& (248 : Int32)) = (240 : Int32) from (own_and248 b0 (by omega) (by omega))) ?_
          refine Wk.iload X at_227 229 rfl rfl ?_
          refine Wk.callS X (t12 hw) (t13 hw) (t14 hw) (t15 hw) (con_cont l Z a0 hw [] h0 n0 b1 (own_and192 b1 (by omega) (by omega))) (by decide) pd1 [(.int b1)] [] rfl rfl rfl rfl 0 (Nat.le_of_eq rfl) (by decide) (by decide) (by decide) (by decide) 0 0 rfl rfl at_229 232 rfl ?_
          rintro _ T _ X ⟨rfl, rfl⟩
          show Wk p.tables e below _ (T.setTop (mkF m 232 #[.val (.int p0), .val (.int cp), .val (.int pv), .val (.int b0), .val (.int b1), .val (.int b2), .val (.int b3)] [(.int (1 : Int32))]))
          refine Wk.ifcF X at_232 235 rfl (show ¬ (1 : Int32) = (0 : Int32) from (by decide)) ?_
          refine Wk.iload X at_235 237 rfl rfl ?_
          refine Wk.callS X (t12 hw) (t13 hw) (t14 hw) (t15 hw) (con_cont l Z a0 hw [] h0 n0 b2 (own_and192 b2 (by omega) (by omega))) (by decide) pd1 [(.int b2)] [] rfl rfl rfl rfl 0 (Nat.le_of_eq rfl) (by decide) (by decide) (by decide) (by decide) 0 0 rfl rfl at_237 240 rfl ?_
          rintro _ T _ X ⟨rfl, rfl⟩
          show Wk p.tables e below _ (T.setTop (mkF m 240 #[.val (.int p0), .val (.int cp), .val (.int pv), .val (.int b0), .val (.int b1), .val (.int b2), .val (.int b3)] [(.int (1 : Int32))]))
          refine Wk.ifcF X at_240 243 rfl (show ¬ (1 : Int32) = (0 : Int32) from (by decide)) ?_
          refine Wk.iload X at_243 245 rfl rfl ?_
          refine Wk.callS X (t12 hw) (t13 hw) (t14 hw) (t15 hw) (con_cont l Z a0 hw [] h0 n0 b3 (own_and192 b3 (by omega) (by omega))) (by decide) pd1 [(.int b3)] [] rfl rfl rfl rfl 0 (Nat.le_of_eq rfl) (by decide) (by decide) (by decide) (by decide) 0 0 rfl rfl at_245 248 rfl ?_
          rintro _ T _ X ⟨rfl, rfl⟩
          show Wk p.tables e below _ (T.setTop (mkF m 248 #[.val (.int p0), .val (.int cp), .val (.int pv), .val (.int b0), .val (.int b1), .val (.int b2), .val (.int b3)] [(.int (1 : Int32))]))
          refine Wk.ifcF X at_248 251 rfl (show ¬ (1 : Int32) = (0 : Int32) from (by decide)) ?_
          refine Wk.iloadN X at_251 252 rfl rfl ?_
          refine Wk.bipush X at_252 254 rfl (7 : Int32) rfl ?_
          refine Wk.iand X at_254 255 rfl ?_
          refine Wk.bipush X at_255 257 rfl (18 : Int32) rfl ?_
          refine Wk.ishl X at_257 258 rfl ?_
          refine Wk.iload X at_258 260 rfl rfl ?_
          refine Wk.bipush X at_260 262 rfl (63 : Int32) rfl ?_
          refine Wk.iand X at_262 263 rfl ?_
          refine Wk.bipush X at_263 265 rfl (12 : Int32) rfl ?_
          refine Wk.ishl X at_265 266 rfl ?_
          refine Wk.ior X at_266 267 rfl ?_
          refine Wk.iload X at_267 269 rfl rfl ?_
          refine Wk.bipush X at_269 271 rfl (63 : Int32) rfl ?_
          refine Wk.iand X at_271 272 rfl ?_
          refine Wk.bipush X at_272 274 rfl (6 : Int32) rfl ?_
          refine Wk.ishl X at_274 275 rfl ?_
          refine Wk.ior X at_275 276 rfl ?_
          refine Wk.iload X at_276 278 rfl rfl ?_
          refine Wk.bipush X at_278 280 rfl (63 : Int32) rfl ?_
          refine Wk.iand X at_280 281 rfl ?_
          refine Wk.ior X at_281 282 rfl ?_
          refine Wk.iloadN X at_282 283 rfl rfl ?_
          refine Wk.icmpF X at_283 286 rfl (show (((((b0 &&& (7 : Int32)) <<< ((18 : Int32) &&& 31)) ||| ((b1 &&& (63 : Int32)) <<< ((12 : Int32) &&& 31))) ||| ((b2 &&& (63 : Int32)) <<< ((6 : Int32) &&& 31))) ||| (b3 &&& (63 : Int32))) = cp from (own_back4 cp b0 b1 b2 b3 r0 r1 r2 r3 hb.1 hb.2)) ?_
          refine Wk.iconst X at_286 287 rfl (1 : Int32) rfl ?_
          refine Wk.goto X at_287 291 (by decide) ?_
          exact Wk.zreturn X at_291 (by decide) (by decide) (Or.inr rfl) rfl
        · intro h6; change cp < (65536 : Int32) at h6
          have k1 : 2048 ≤ cp.toInt := by simp only [Int32.lt_iff_toInt_lt, Int32.reduceToInt] at h5; omega
          have k2 : cp.toInt < 65536 := by simp only [Int32.lt_iff_toInt_lt, Int32.reduceToInt] at h6; omega
          have ev : pv.toInt = 224 + cp.toInt / 4096 + (128 + cp.toInt / 64 % 64) * 256 + (128 + cp.toInt % 64) * 65536 := by rw [← hp, show pkF cp = pk3 cp from by rcases hj with hj | hj <;> simp [pkF, h1, h5, h6, hj]]; exact own_pk3 cp k1 k2
          have q0 := own_b0 pv
          have q1 := own_b1 pv
          have q2 := own_b2 pv
          have q3 := own_b3 pv
          generalize (pv &&& (255 : Int32)) = b0 at q0 ⊢
          generalize (((pv.toUInt32 >>> ((8 : Int32) &&& 31).toUInt32).toInt32) &&& (255 : Int32)) = b1 at q1 ⊢
          generalize (((pv.toUInt32 >>> ((16 : Int32) &&& 31).toUInt32).toInt32) &&& (255 : Int32)) = b2 at q2 ⊢
          generalize ((pv.toUInt32 >>> ((24 : Int32) &&& 31).toUInt32).toInt32) = b3 at q3 ⊢
          have ef : pv.toInt % 4294967296 = (224 + cp.toInt / 4096) + (128 + cp.toInt / 64 % 64) * 256 + (128 + cp.toInt % 64) * 65536 + 0 * 16777216 := by rw [ev]; omega
          have r0 : b0.toInt = 224 + cp.toInt / 4096 := by rw [q0, own_m256, ef]; exact own_by0 _ _ _ _ (by omega) (by omega)
          have r1 : b1.toInt = 128 + cp.toInt / 64 % 64 := by rw [q1, ef]; exact own_by1 _ _ _ _ (by omega) (by omega) (by omega) (by omega)
          have r2 : b2.toInt = 128 + cp.toInt % 64 := by rw [q2, ef]; exact own_by2 _ _ _ _ (by omega) (by omega) (by omega) (by omega) (by omega) (by omega)
          have r3 : b3 = 0 := Int32.toInt_inj.mp (by rw [q3, ef]; exact own_by3 _ _ _ _ (by omega) (by omega) (by omega) (by omega) (by omega) (by omega))
          refine Wk.iloadN X at_152 153 rfl rfl ?_
          refine Wk.sipush X at_153 156 rfl (240 : Int32) rfl ?_
          refine Wk.iand X at_156 157 rfl ?_
          refine Wk.sipush X at_157 160 rfl (224 : Int32) rfl ?_
          refine Wk.icmpF X at_160 163 rfl (show (b0 &&& (240 : Int32)) = (224 : Int32) from (own_and240 b0 (by omega) (by omega))) ?_
          refine Wk.iload X at_163 165 rfl rfl ?_
          refine Wk.callS X (t12 hw) (t13 hw) (t14 hw) (t15 hw) (con_cont l Z a0 hw [] h0 n0 b1 (own_and192 b1 (by omega) (by omega))) (by decide) pd1 [(.int b1)] [] rfl rfl rfl rfl 0 (Nat.le_of_eq rfl) (by decide) (by decide) (by decide) (by decide) 0 0 rfl rfl at_165 168 rfl ?_
          rintro _ T _ X ⟨rfl, rfl⟩
          show Wk p.tables e below _ (T.setTop (mkF m 168 #[.val (.int p0), .val (.int cp), .val (.int pv), .val (.int b0), .val (.int b1), .val (.int b2), .val (.int b3)] [(.int (1 : Int32))]))
          refine Wk.ifcF X at_168 171 rfl (show ¬ (1 : Int32) = (0 : Int32) from (by decide)) ?_
          refine Wk.iload X at_171 173 rfl rfl ?_
          refine Wk.callS X (t12 hw) (t13 hw) (t14 hw) (t15 hw) (con_cont l Z a0 hw [] h0 n0 b2 (own_and192 b2 (by omega) (by omega))) (by decide) pd1 [(.int b2)] [] rfl rfl rfl rfl 0 (Nat.le_of_eq rfl) (by decide) (by decide) (by decide) (by decide) 0 0 rfl rfl at_173 176 rfl ?_
          rintro _ T _ X ⟨rfl, rfl⟩
          show Wk p.tables e below _ (T.setTop (mkF m 176 #[.val (.int p0), .val (.int cp), .val (.int pv), .val (.int b0), .val (.int b1), .val (.int b2), .val (.int b3)] [(.int (1 : Int32))]))
          refine Wk.ifcF X at_176 179 rfl (show ¬ (1 : Int32) = (0 : Int32) from (by decide)) ?_
          refine Wk.iload X at_179 181 rfl rfl ?_
          refine Wk.ifcF X at_181 184 rfl (show b3 = (0 : Int32) from r3) ?_
          refine Wk.iloadN X at_184 185 rfl rfl ?_
          refine Wk.bipush X at_185 187 rfl (15 : Int32) rfl ?_
          refine Wk.iand X at_187 188 rfl ?_
          refine Wk.bipush X at_188 190 rfl (12 : Int32) rfl ?_
          refine Wk.ishl X at_190 191 rfl ?_
          refine Wk.iload X at_191 193 rfl rfl ?_
          refine Wk.bipush X at_193 195 rfl (63 : Int32) rfl ?_
          refine Wk.iand X at_195 196 rfl ?_
          refine Wk.bipush X at_196 198 rfl (6 : Int32) rfl ?_
          refine Wk.ishl X at_198 199 rfl ?_
          refine Wk.ior X at_199 200 rfl ?_
          refine Wk.iload X at_200 202 rfl rfl ?_
          refine Wk.bipush X at_202 204 rfl (63 : Int32) rfl ?_
          refine Wk.iand X at_204 205 rfl ?_
          refine Wk.ior X at_205 206 rfl ?_
          refine Wk.iloadN X at_206 207 rfl rfl ?_
          refine Wk.icmpF X at_207 210 rfl (show ((((b0 &&& (15 : Int32)) <<< ((12 : Int32) &&& 31)) ||| ((b1 &&& (63 : Int32)) <<< ((6 : Int32) &&& 31))) ||| (b2 &&& (63 : Int32))) = cp from (own_back3 cp b0 b1 b2 r0 r1 r2 hb.1 k2)) ?_
          refine Wk.iconst X at_210 211 rfl (1 : Int32) rfl ?_
          refine Wk.goto X at_211 215 (by decide) ?_
          exact Wk.zreturn X at_215 (by decide) (by decide) (Or.inr rfl) rfl
      · intro h5; change cp < (2048 : Int32) at h5
        have k1 : 128 ≤ cp.toInt := by simp only [Int32.lt_iff_toInt_lt, Int32.reduceToInt] at h1; omega
        have k2 : cp.toInt < 2048 := by simp only [Int32.lt_iff_toInt_lt, Int32.reduceToInt] at h5; omega
        have ev : pv.toInt = 192 + cp.toInt / 64 + (128 + cp.toInt % 64) * 256 := by rw [← hp, show pkF cp = pk2 cp from by simp [pkF, h1, h5]]; exact own_pk2 cp k1 k2
        have q0 := own_b0 pv
        have q1 := own_b1 pv
        have q2 := own_b2 pv
        have q3 := own_b3 pv
        generalize (pv &&& (255 : Int32)) = b0 at q0 ⊢
        generalize (((pv.toUInt32 >>> ((8 : Int32) &&& 31).toUInt32).toInt32) &&& (255 : Int32)) = b1 at q1 ⊢
        generalize (((pv.toUInt32 >>> ((16 : Int32) &&& 31).toUInt32).toInt32) &&& (255 : Int32)) = b2 at q2 ⊢
        generalize ((pv.toUInt32 >>> ((24 : Int32) &&& 31).toUInt32).toInt32) = b3 at q3 ⊢
        have ef : pv.toInt % 4294967296 = (192 + cp.toInt / 64) + (128 + cp.toInt % 64) * 256 + 0 * 65536 + 0 * 16777216 := by rw [ev]; omega
        have r0 : b0.toInt = 192 + cp.toInt / 64 := by rw [q0, own_m256, ef]; exact own_by0 _ _ _ _ (by omega) (by omega)
        have r1 : b1.toInt = 128 + cp.toInt % 64 := by rw [q1, ef]; exact own_by1 _ _ _ _ (by omega) (by omega) (by omega) (by omega)
        have r2 : b2 = 0 := Int32.toInt_inj.mp (by rw [q2, ef]; exact own_by2 _ _ _ _ (by omega) (by omega) (by omega) (by omega) (by omega) (by omega))
        have r3 : b3 = 0 := Int32.toInt_inj.mp (by rw [q3, ef]; exact own_by3 _ _ _ _ (by omega) (by omega) (by omega) (by omega) (by omega) (by omega))
        refine Wk.iloadN X at_94 95 rfl rfl ?_
        refine Wk.sipush X at_95 98 rfl (224 : Int32) rfl ?_
        refine Wk.iand X at_98 99 rfl ?_
        refine Wk.sipush X at_99 102 rfl (192 : Int32) rfl ?_
        refine Wk.icmpF X at_102 105 rfl (show (b0 &&& (224 : Int32)) = (192 : Int32) from (own_and224 b0 (by omega) (by omega))) ?_
        refine Wk.iload X at_105 107 rfl rfl ?_
        refine Wk.callS X (t12 hw) (t13 hw) (t14 hw) (t15 hw) (con_cont l Z a0 hw [] h0 n0 b1 (own_and192 b1 (by omega) (by omega))) (by decide) pd1 [(.int b1)] [] rfl rfl rfl rfl 0 (Nat.le_of_eq rfl) (by decide) (by decide) (by decide) (by decide) 0 0 rfl rfl at_107 110 rfl ?_
        rintro _ T _ X ⟨rfl, rfl⟩
        show Wk p.tables e below _ (T.setTop (mkF m 110 #[.val (.int p0), .val (.int cp), .val (.int pv), .val (.int b0), .val (.int b1), .val (.int b2), .val (.int b3)] [(.int (1 : Int32))]))
        refine Wk.ifcF X at_110 113 rfl (show ¬ (1 : Int32) = (0 : Int32) from (by decide)) ?_
        refine Wk.iload X at_113 115 rfl rfl ?_
        refine Wk.ifcF X at_115 118 rfl (show b2 = (0 : Int32) from r2) ?_
        refine Wk.iload X at_118 120 rfl rfl ?_
        refine Wk.ifcF X at_120 123 rfl (show b3 = (0 : Int32) from r3) ?_
        refine Wk.iloadN X at_123 124 rfl rfl ?_
        refine Wk.bipush X at_124 126 rfl (31 : Int32) rfl ?_
        refine Wk.iand X at_126 127 rfl ?_
        refine Wk.bipush X at_127 129 rfl (6 : Int32) rfl ?_
        refine Wk.ishl X at_129 130 rfl ?_
        refine Wk.iload X at_130 132 rfl rfl ?_
        refine Wk.bipush X at_132 134 rfl (63 : Int32) rfl ?_
        refine Wk.iand X at_134 135 rfl ?_
        refine Wk.ior X at_135 136 rfl ?_
        refine Wk.iloadN X at_136 137 rfl rfl ?_
        refine Wk.icmpF X at_137 140 rfl (show (((b0 &&& (31 : Int32)) <<< ((6 : Int32) &&& 31)) ||| (b1 &&& (63 : Int32))) = cp from (own_back2 cp b0 b1 r0 r1 hb.1 k2)) ?_
        refine Wk.iconst X at_140 141 rfl (1 : Int32) rfl ?_
        refine Wk.goto X at_141 145 (by decide) ?_
        exact Wk.zreturn X at_145 (by decide) (by decide) (Or.inr rfl) rfl
    · intro J
      refine Wk.iloadN X at_63 64 rfl rfl ?_
      refine Wk.ldcInt X (t9 hw) at_64 66 rfl ?_
      refine Wk.icmp X at_66 87 69 (by decide) rfl ?_ ?_
      · intro h3; change cp < (55296 : Int32) at h3
        exact J (Or.inl h3)
      · intro h3; change ¬ cp < (55296 : Int32) at h3
        refine Wk.iloadN X at_69 70 rfl rfl ?_
        refine Wk.ldcInt X (t10 hw) at_70 72 rfl ?_
        refine Wk.icmp X at_72 87 75 (by decide) rfl ?_ ?_
        · intro h4; change (57343 : Int32) < cp at h4
          exact J (Or.inr h4)
        · intro h4; change ¬ (57343 : Int32) < cp at h4
          refine Wk.iloadN X at_75 76 rfl rfl ?_
          refine Wk.bipush X at_76 78 rfl (63 : Int32) rfl ?_
          refine Wk.icmpF X at_78 81 rfl (show pv = (63 : Int32) from (by rw [← hp]; simp [pkF, h1, h3, h4, show ¬ cp < 2048 from by simp only [Int32.lt_iff_toInt_lt, Int32.reduceToInt] at h3 ⊢; omega])) ?_
          refine Wk.iconst X at_81 82 rfl (1 : Int32) rfl ?_
          refine Wk.goto X at_82 86 (by decide) ?_
          exact Wk.zreturn X at_86 (by decide) (by decide) (Or.inr rfl) rfl
  · intro h1; change cp < (128 : Int32) at h1
    refine Wk.iloadN X at_52 53 rfl rfl ?_
    refine Wk.iloadN X at_53 54 rfl rfl ?_
    refine Wk.icmpF X at_54 57 rfl (show pv = cp from (by rw [← hp]; simp [pkF, h1])) ?_
    refine Wk.iconst X at_57 58 rfl (1 : Int32) rfl ?_
    refine Wk.goto X at_58 62 (by decide) ?_
    exact Wk.zreturn X at_62 (by decide) (by decide) (Or.inr rfl) rfl
set_option maxRecDepth 65536 in
set_option maxHeartbeats 40000000 in
theorem comes_1 {Post : Tables → Env → Array Value → State → Outcome → State → Prop} (hpost : ∀ tb e args s v u, (limb_1_1.after args s (.returned v) u = true ∧ limb_1_2.after args s (.returned v) u = true ∧ True) → FrameEnd s (.returned v) u (Jvm.fieldLocs frame_1_writes args s ++ Jvm.arrayLocs frame_1_arrays args s ++ Jvm.staticLocs frame_1_statics s) 0 0 → Post tb e args s (.returned v) u) :
    ArmFor flags0 classFile x code maxLocals ret World_1 tables_1 room_1 Calls_1 rest_1 Pre_1 Post := by
  intro l hfl _ _ p e ha hc hk s m args below hf hA hF happ hP
  obtain ⟨hcalls, hrest, hpre⟩ := hP
  obtain ⟨-, -, -, hnamed, -, -, -, hat⟩ := (Spec.applies_iff hf).mp happ
  obtain ⟨hg, hn⟩ := and_e (Cond.before_iff.mp (show (Jvm.Cond.and given_1 narrow_1).before args s = true from hpre))
  obtain ⟨g0, r0⟩ := and_e hg
  have g1 := r0
  obtain ⟨w0, rfl⟩ : ∃ w0 : Value, args = #[w0] := by
    have hs : args.size = 1 := by simpa [Cond.value, given_1] using g0
    obtain ⟨L⟩ := args
    match L, hs with
    | [w0], _ => exact ⟨w0, rfl⟩
  have hw := fun d (hd : d ∈ tables_1) => atoms_spec (ws := Jvm.Cond.code x code maxLocals ret :: tables_1) hat d (List.mem_cons_of_mem _ hd)
  obtain ⟨i0, ei0⟩ := is_v g1
  obtain rfl : w0 = (.int i0) := Option.some.inj ei0
  obtain ⟨n, o, h1, h2, h3, _, L, rfl, ⟨rfl, N⟩, hq⟩ := con_law l s _ hw tables_1 s.heap s.heap.size i0 p e ha hc hk s m _ below hf ((Spec.applies_iff_loose hf).mp happ).1 ⟨rfl, State.Warmed39.refl s, rfl⟩ trivial
  refine ⟨n, _, h1, h2, h3, hpost _ _ _ _ _ _ ⟨Cond.after_iff.mpr rfl, Cond.after_iff.mpr (eq_i res_at (Term.int_eval (1)) rfl), trivial⟩ ⟨hq.1, hq.2.1, (hq.2.2.sift fun y hy => Or.inr (N y hy)).mono (by decide) (by decide)⟩⟩
theorem main_1_1 : Claimed_1_1 := comes_1 fun _ _ _ _ _ _ h hF => ⟨h.1, hF⟩
theorem main_1_2 : Claimed_1_2 := comes_1 fun _ _ _ _ _ _ h hF => ⟨h.2.1, hF⟩
end Jvm.Pilot.@@N@@
namespace Jvm.Pilot.@@N@@
open Jvm Jvm.ClassFile Sem Op Lib Jvm.Free Jvm.Stand Jvm.Pilot.@@N@@.Jvm.D
/-! MADE BY PROGRAM (witnessworld.py) out of the Statement's table words and the real class files: 9 classes; the members and pool entries that the words name. The judged class is class 1, her method 1. -/
namespace start1
open Jvm.ClassFile
def u (s : String) : CpInfo := .utf8 (stringToUtf16 s)
/-- a pool by its gaps: so many unusable entries, then the entry; so many at the end -/
def gap : Nat → List CpInfo → List CpInfo
  | 0, r => r
  | n + 1, r => .unusable :: gap n r
def poolList (es : List (Nat × CpInfo)) (last : Nat) : List CpInfo := es.foldr (fun e r => gap e.1 (e.2 :: r)) (gap last [])
def pool (es : List (Nat × CpInfo)) (last : Nat) : Array CpInfo := ⟨poolList es last⟩
def fileOf (pool : Array CpInfo) (this : Nat) (attrs : Array Attribute := #[]) (ms : Array MethodInfo := #[]) (fl : Nat := 33) (sup : Nat := 0) (ifs : Array Nat := #[]) (fds : Array FieldInfo := #[]) : ClassFile where
  minorVersion := 0
  majorVersion := 65
  constantPool := pool
  accessFlags := fl
  thisClass := this
  superClass := sup
  interfaces := ifs
  fields := fds
  methods := ms
  attributes := attrs
def plain (name : String) (sup : Option ClassId) : Class where
  name := name
  kind := .ordinary
  loader := none
  accessFlags := 33
  super := sup
  interfaces := #[]
  cf := none
  fields := #[]
  methods := #[]
  instanceTypes := #[]
  staticTypes := #[]
  resolved := #[]
  callSites := []
  init := .initialized
  statics := none
  mirror := none

def pool0 : Array CpInfo := pool [(5, u "<init>"), (0, u "()V"), (1, .class_ 10), (1, u "java/lang/Object")] 113

def k0m0 : Method := { name := "<init>", desc := "()V", sig := { parameters := [], returnType := none }, accessFlags := 1, code := none }
/-- java/lang/Object -/
def k0 : Class := { plain "java/lang/Object" none with
  accessFlags := 33
  interfaces := #[]
  cf := some (fileOf pool0 8 #[] #[{ accessFlags := 1, nameIndex := 5, descriptorIndex := 6, attributes := #[] }] 33 0 #[] #[])
  fields := #[]
  methods := #[k0m0]
  instanceTypes := #[]
  staticTypes := #[]
  resolved := Array.replicate 124 none
  statics := none }

def pool1 : Array CpInfo := pool [(2, .class_ 4), (1, u "java/lang/Object"), (0, u "<init>"), (0, u "()V"), (0, .integer 2147483647), (0, .integer 1114112), (0, .methodref 10 11), (0, .class_ 12), (0, .nameAndType 13 14), (0, u "com/example/garblescore/garblescore/io/Utf8"), (0, u "packed"), (0, u "(I)I"), (0, .integer 55296), (0, .integer 57343), (0, .methodref 18 19), (0, .class_ 20), (0, .nameAndType 21 22), (0, u "com/example/garblescore/garblescore/io/Utf8PackedPinLaw"), (0, u "cont"), (0, u "(I)Z"), (0, .integer 65536), (2, u "law")] 3

def k1m0 : Method := { name := "<init>", desc := "()V", sig := { parameters := [], returnType := none }, accessFlags := 2, code := none }
def k1c1 : Code := { maxStack := 3, maxLocals := 7, code := code, exceptionTable := #[], attributes := #[] }
def k1m1 : Method := { name := "law", desc := "(I)Z", sig := { parameters := [.int], returnType := some .boolean }, accessFlags := 9, code := some k1c1 }
def k1c2 : Code := { maxStack := 2, maxLocals := 1, code := method_3_code, exceptionTable := #[], attributes := #[] }
def k1m2 : Method := { name := "cont", desc := "(I)Z", sig := { parameters := [.int], returnType := some .boolean }, accessFlags := 10, code := some k1c2 }
/-- com/example/garblescore/garblescore/io/Utf8PackedPinLaw -/
def k1 : Class := { plain "com/example/garblescore/garblescore/io/Utf8PackedPinLaw" (some 0) with
  accessFlags := 49
  interfaces := #[]
  cf := some (fileOf pool1 18 #[] #[{ accessFlags := 2, nameIndex := 5, descriptorIndex := 6, attributes := #[] }, { accessFlags := 9, nameIndex := 26, descriptorIndex := 22, attributes := #[] }, { accessFlags := 10, nameIndex := 21, descriptorIndex := 22, attributes := #[] }] 49 2 #[] #[])
  fields := #[]
  methods := #[k1m0, k1m1, k1m2]
  instanceTypes := #[]
  staticTypes := #[]
  resolved := Array.replicate 30 none
  statics := none }

def pool2 : Array CpInfo := pool [(2, .class_ 4), (1, u "java/lang/Object"), (0, u "<init>"), (0, u "()V"), (1, .class_ 10), (1, u "com/example/garblescore/garblescore/io/Utf8"), (1, u "(I)I"), (2, u "packed"), (4, .integer 55296), (0, .integer 57343), (0, .integer 65536), (1, .class_ 26), (1, u "com/example/garblescore/garblescore/io/Utf8$DefinedStarts"), (8, u "MAX_BYTES"), (0, u "I")] 16

def k2m0 : Method := { name := "<init>", desc := "()V", sig := { parameters := [], returnType := none }, accessFlags := 2, code := none }
def k2c1 : Code := { maxStack := 4, maxLocals := 1, code := prog_100_method_3_code, exceptionTable := #[], attributes := #[] }
def k2m1 : Method := { name := "packed", desc := "(I)I", sig := { parameters := [.int], returnType := some .int }, accessFlags := 9, code := some k2c1 }
/-- com/example/garblescore/garblescore/io/Utf8 -/
def k2 : Class := { plain "com/example/garblescore/garblescore/io/Utf8" (some 0) with
  accessFlags := 49
  interfaces := #[]
  cf := some (fileOf pool2 8 #[.nestMembers #[24]] #[{ accessFlags := 2, nameIndex := 5, descriptorIndex := 6, attributes := #[] }, { accessFlags := 9, nameIndex := 15, descriptorIndex := 12, attributes := #[] }] 49 2 #[] #[{ accessFlags := 25, nameIndex := 35, descriptorIndex := 36, attributes := #[] }])
  fields := #[{ name := "MAX_BYTES", type := .int, accessFlags := 25, slot := 0, constantValue := 0 }]
  methods := #[k2m0, k2m1]
  instanceTypes := #[]
  staticTypes := #[.int]
  resolved := Array.replicate 53 none
  statics := none }

def pool3 : Array CpInfo := pool [(1, u "java/lang/Cloneable"), (0, .class_ 1), (0, u "java/lang/Object"), (0, .class_ 3)] 3

/-- java/lang/Cloneable -/
def k3 : Class := { plain "java/lang/Cloneable" (some 0) with
  accessFlags := 1537
  interfaces := #[]
  cf := some (fileOf pool3 2 #[] #[] 1537 4 #[] #[])
  fields := #[]
  methods := #[]
  instanceTypes := #[]
  staticTypes := #[]
  resolved := Array.replicate 8 none
  statics := none }

def pool4 : Array CpInfo := pool [(1, u "java/io/Serializable"), (0, .class_ 1), (0, u "java/lang/Object"), (0, .class_ 3)] 3

/-- java/io/Serializable -/
def k4 : Class := { plain "java/io/Serializable" (some 0) with
  accessFlags := 1537
  interfaces := #[]
  cf := some (fileOf pool4 2 #[] #[] 1537 4 #[] #[])
  fields := #[]
  methods := #[]
  instanceTypes := #[]
  staticTypes := #[]
  resolved := Array.replicate 8 none
  statics := none }

/-- the primitive byte -/
def k5 : Class := { plain "byte" none with kind := .primitive 'B', accessFlags := 0x411 }
/-- [B -/
def k6 : Class := { plain "[B" (some 0) with kind := .array 5 .byte, interfaces := #[3, 4], accessFlags := 1041 }

/-- the primitive int -/
def k7 : Class := { plain "int" none with kind := .primitive 'I', accessFlags := 0x411 }
/-- [I -/
def k8 : Class := { plain "[I" (some 0) with kind := .array 7 .int, interfaces := #[3, 4], accessFlags := 1041 }

def heap : Heap := #[]
def classes : Array Class := #[k0, k1, k2, k3, k4, k5, k6, k7, k8]
def interned : List (Array UInt16 × Addr) := []
def slotsUsed : Nat := 0
def theMethod : MethodId := ⟨1, 1⟩
def args0 : Array Value := #[.int 5]
def aboutOver (below : List Frame) : State where
  vm := { classes := classes, interned := interned.toArray }
  heap := heap
  slotsUsed := slotsUsed
  threads := #[{ frames := .invoking theMethod args0 :: below }]
def below0 : List Frame := [.native { method := ⟨0, 0⟩, args := #[] }]
def about1 : State := aboutOver below0
def p0 : Program := .bare "" "" ""
def e0 : Env := launch0.env 0 0 0
theorem w_frames : about1.frames = Frame.invoking theMethod args0 :: below0 := rfl
set_option maxRecDepth 65536 in
theorem w_args : argsFit about1.vm theMethod args0 = true := by decide +kernel
set_option maxRecDepth 65536 in
theorem w_heap : heapFits about1 = true := by decide +kernel
set_option maxRecDepth 65536 in
theorem w_runnable : about1.curStatus? = some .runnable := by decide +kernel
set_option maxRecDepth 65536 in
theorem w_alone : about1.alone = true := by decide +kernel
set_option maxRecDepth 65536 in
theorem w_named : about1.methodNamed? x = some theMethod := by decide +kernel
set_option maxRecDepth 65536 in
theorem w_hears : about1.hears theMethod below0 = true := by decide +kernel
set_option maxRecDepth 65536 in
theorem w_ripe : about1.ripe theMethod args0 below0 = true := by decide +kernel
theorem w_running : about1.status = .running := rfl
set_option maxRecDepth 65536 in
theorem w_room : about1.hasRoom e0.platform room_1 = true :=
  launch0.hasRoom_least _ room_1 (by decide +kernel) (by decide +kernel) (by decide +kernel) (by decide +kernel) (by decide +kernel) (by decide +kernel)
theorem allAtoms_all (ts : List Jvm.Cond) (a : Array Jvm.Value) (st : Jvm.State) : (allAtoms ts).before a st = ts.all (fun c => c.before a st) := by
  induction ts with
  | nil => rfl
  | cons c t ih =>
    show (Jvm.Cond.and c (allAtoms t)).before a st = _
    rw [Jvm.Cond.before_and, ih, List.all_cons]
def words1 : List Jvm.Cond := Jvm.Cond.code x code maxLocals ret :: tables_1
/-- a 'code' word, met by the world's own term for the bytes: nothing is compared byte by byte -/
theorem code_word {y : MethodName} {bytes : ByteArray} {mx : Nat} {rt : Option FieldType} {a : Array Value} {s : State} {m : MethodId} {meth : Method} {c : Code} (h1 : s.methodNamed? y = some m) (h2 : s.vm.method? m = some meth) (h3 : meth.code = some c) (h4 : c.code = bytes)
    (h5 : (c.maxLocals == mx && c.exceptionTable.isEmpty && decide (c.maxStack ≤ mostOperands) && decide (meth.sig.returnType = rt) && !meth.locks && decide (parseMethodDescriptor y.desc = some meth.sig)) = true) : (Jvm.Cond.code y bytes mx rt).before a s = true := by
  simp only [Bool.and_eq_true, beq_iff_eq, Bool.not_eq_true', decide_eq_true_eq] at h5
  obtain ⟨⟨⟨⟨⟨g1, g2⟩, g3⟩, g4⟩, g5⟩, g6⟩ := h5
  simp [Cond.before, Cond.holds, Cond.value, h1, h2, h3, h4, g1, g2, g3, g4, g5, g6]
def isCode : Jvm.Cond → Bool
  | .code _ _ _ _ => true
  | _ => false
theorem all_split {L : List Jvm.Cond} {P : Jvm.Cond → Bool} (h1 : L.all (fun c => isCode c || P c) = true) (h2 : ∀ c ∈ L.filter isCode, P c = true) : L.all P = true := by
  refine List.all_eq_true.mpr fun c hc => ?_
  have h := List.all_eq_true.mp h1 c hc
  rcases Bool.eq_false_or_eq_true (isCode c) with hi | hi
  · exact h2 c (List.mem_filter.mpr ⟨hc, hi⟩)
  · simpa [hi] using h
set_option maxRecDepth 65536 in
theorem w_c0 : (Jvm.Cond.code x code maxLocals ret).before args0 about1 = true := code_word (m := ⟨1, 1⟩) (meth := k1m1) (c := k1c1) (by decide +kernel) rfl rfl rfl (by decide +kernel)
set_option maxRecDepth 65536 in
theorem w_c1 : (Jvm.Cond.code ({ cls := "com/example/garblescore/garblescore/io/Utf8", name := "packed", desc := "(I)I" } : Jvm.MethodName) prog_100_method_3_code (1 : Nat) (Option.some Jvm.ClassFile.FieldType.int)).before args0 about1 = true := code_word (m := ⟨2, 1⟩) (meth := k2m1) (c := k2c1) (by decide +kernel) rfl rfl rfl (by decide +kernel)
set_option maxRecDepth 65536 in
theorem w_c2 : (Jvm.Cond.code ({ cls := "com/example/garblescore/garblescore/io/Utf8PackedPinLaw", name := "cont", desc := "(I)Z" } : Jvm.MethodName) method_3_code (1 : Nat) (Option.some Jvm.ClassFile.FieldType.boolean)).before args0 about1 = true := code_word (m := ⟨1, 2⟩) (meth := k1m2) (c := k1c2) (by decide +kernel) rfl rfl rfl (by decide +kernel)
def codes1 : List Jvm.Cond := [Jvm.Cond.code x code maxLocals ret, Jvm.Cond.code ({ cls := "com/example/garblescore/garblescore/io/Utf8", name := "packed", desc := "(I)I" } : Jvm.MethodName) prog_100_method_3_code (1 : Nat) (Option.some Jvm.ClassFile.FieldType.int), Jvm.Cond.code ({ cls := "com/example/garblescore/garblescore/io/Utf8PackedPinLaw", name := "cont", desc := "(I)Z" } : Jvm.MethodName) method_3_code (1 : Nat) (Option.some Jvm.ClassFile.FieldType.boolean)]
set_option maxRecDepth 65536 in
theorem codes_eq : words1.filter isCode = codes1 := rfl
theorem w_codes : ∀ c ∈ words1.filter isCode, c.before args0 about1 = true := by
  rw [codes_eq]
  intro c hc
  simp only [codes1, List.mem_cons, List.not_mem_nil, or_false] at hc
  rcases hc with rfl | rfl | rfl
  · exact w_c0
  · exact w_c1
  · exact w_c2
set_option maxRecDepth 65536 in
theorem w_t1 : words1.all (fun c => isCode c || c.before args0 about1) = true := by decide +kernel
theorem w_tables : (allAtoms (Jvm.Cond.code x code maxLocals ret :: tables_1)).before args0 about1 = true := by
  rw [allAtoms_all]
  show words1.all (fun c => c.before args0 about1) = true
  refine all_split ?_ w_codes
  rw [w_t1]
set_option maxRecDepth 65536 in
theorem w_case : (Jvm.Cond.and given_1 narrow_1).before args0 about1 = true := by decide +kernel
theorem w_applies : (headSpec (Jvm.Cond.code x code maxLocals ret :: tables_1) room_1).applies x e0.platform about1 = true :=
  (Spec.applies_iff w_frames).mpr ⟨w_running, w_runnable, w_alone, w_named, w_hears, w_ripe, w_room, w_tables⟩
theorem atStart : AtStart classFile x code maxLocals ret World_1 tables_1 room_1 Calls_1 rest_1 Pre_1 launch0 p0 e0 about1 theMethod args0 below0 :=
  ⟨lists_1, trivial, launch0.admits_env _ _ _, launch0.least_env, fairChoices_fair.cas, fairChoices_fair.clock, w_frames, w_args, w_heap, w_applies, trivial, trivial, w_case⟩
end start1
theorem witness_1 : WitnessClaimed_1 := ⟨start1.p0, start1.e0, start1.about1, start1.theMethod, start1.args0, start1.below0, start1.atStart⟩
end Jvm.Pilot.@@N@@
