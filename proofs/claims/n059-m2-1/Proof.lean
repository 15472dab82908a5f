import JvmDerived
import JvmDerived.Pilot.@@N@@Statement
import JvmDerived.Pilot.@@N@@Code
set_option linter.unusedVariables false
set_option linter.unusedSimpArgs false
namespace Jvm.Pilot.@@N@@
open Jvm Jvm.ClassFile Sem Op Lib Jvm.Free Jvm.Stand Jvm.LawKit Jvm.RoadKit Bundle Jvm.Pilot.@@N@@.Jvm.D
/-! ## my own layer: a walk read forward (Wk), where it stands (Hr), what a body promises (Con) -/
/-- from the state a the walk ends, and G holds of its end -/
def Wk (tb : Tables) (e : Env) (below : List Frame) (G : State → Outcome → Prop) (a : State) : Prop := ∃ t o, Steps tb e below a t ∧ t.status = .running ∧ Ended t below o ∧ G t o
theorem Wk.go {tb : Tables} {e : Env} {below : List Frame} {G : State → Outcome → Prop} {a b : State} (f : ∀ t, Steps tb e below b t → Steps tb e below a t) (k : Wk tb e below G b) : Wk tb e below G a := by
  obtain ⟨t, o, q, r⟩ := k
  exact ⟨t, o, f t q, r⟩
/-- where a walk stands: the library's Stand, with all that a step asks; nothing below n0 was written -/
def Hr (p : Program) (l : Launch) (e : Env) (R : Room) (s : State) (m : MethodId) (args : Array Value) (below : List Frame) (meth : Method) (c : Code) (Z : State) (own : String) (bs : ByteArray) (ml n0 : Nat) (rt : Option FieldType) (T : State) (h : Heap) (cells slots : Nat) : Prop :=
  (∃ locs, Stand p l e R s m args below meth c T locs cells slots ∧ Fr n0 locs) ∧ p.tables.exec = Jvm.exec ∧ c.code = bs ∧ c.maxLocals = ml ∧ Z.Warmed39 s.vm ∧ s.vm.findClass own = some m.cls ∧ meth.sig.returnType = rt ∧ meth.locks = false ∧ T.heap = h
/-- the end that a contract speaks of -/
def Gl (s : State) (n0 : Nat) (Q : Option Value → Heap → Prop) (C N : Nat) (t : State) (o : Outcome) : Prop := ∃ v L, o = .returned v ∧ (Q v t.heap ∧ Fr n0 L) ∧ FrameEnd s o t L C N
/-- what a body promises: started with these arguments at this heap it returns, and Q holds of the value and the heap -/
abbrev Con (l : Launch) (y : MethodName) (bytes : ByteArray) (maxL : Nat) (rt : Option FieldType) (rm : Room) (ws : List Jvm.Cond) (Z : State) (as' : Array Value) (h0 : Heap) (n0 : Nat) (Q : Option Value → Heap → Prop) : Prop :=
  MetFree l y (head1 (Jvm.Cond.code y bytes maxL rt :: ws) rm) (fun a U => a = as' ∧ Z.Warmed39 U.vm ∧ U.heap = h0) (fun _ _ _ _ _ => True) (fun _ U o U' => ∃ v L, o = .returned v ∧ (Q v U'.heap ∧ Fr n0 L) ∧ FrameEnd U o U' L rm.cells rm.slots)
theorem Con.of {l : Launch} {y : MethodName} {bytes : ByteArray} {maxL : Nat} {rt : Option FieldType} {rm : Room} {ws : List Jvm.Cond} {Z : State} {as' : Array Value} {h0 : Heap} {n0 : Nat} {Q : Option Value → Heap → Prop} (hp : plainFor y = true)
    (body : ∀ p e s m below meth c T, Hr p l e rm s m as' below meth c Z y.cls bytes maxL n0 rt T h0 0 0 → meth.name = y.name → Wk p.tables e below (Gl s n0 Q rm.cells rm.slots) (T.setTop (entryFrame m as' maxL))) : Con l y bytes maxL rt rm ws Z as' h0 n0 Q := by
  refine MetFree.of_bodySF hp hisR ?_
  intro p e s m args below meth c s₁ Bd hml0 hP hK
  obtain ⟨rfl, hZ, hh⟩ := hP
  have e0 : s₁.heap = h0 := by rw [← hh, Bd.state]; rfl
  exact body p e s m below meth c s₁ ⟨⟨[], Stand.of_body Bd, Fr.nil n0⟩, Bd.exec, Bd.bytes, hml0, hZ, findClass_of_methodNamed Bd.named, Bd.returns, Bd.notSynchronized, e0⟩ (name_of_methodNamed Bd.named Bd.method).1
/-- an array and all that it holds -/
def Arl (Z : State) (h : Heap) (a : Addr) (ty : FieldType) (us : List Value) : Prop := ∃ cl : Cell, Arr Z h a cl ty ∧ cl.slots = us.toArray ∧ us.length < 2 ^ 31
section Layer
variable {p : Program} {l : Launch} {e : Env} {R : Room} {s : State} {m : MethodId} {args : Array Value} {below : List Frame} {meth : Method} {c : Code} {Z : State} {own : String} {bs : ByteArray} {ml n0 : Nat} {rt : Option FieldType} {T : State} {h h' : Heap} {cells slots : Nat} {G : State → Outcome → Prop} {pc : Nat} {Ls : Array Slot} {st : List Value} {a0 : Array Value}
theorem Arl.ext {a : Addr} {ty : FieldType} {us : List Value} (A : Arl Z h a ty us) (E : Ext h h') : Arl Z h' a ty us := by
  obtain ⟨cl, A, r⟩ := A; exact ⟨cl, A.ext E, r⟩
theorem Arl.lt {a : Addr} {ty : FieldType} {us : List Value} (A : Arl Z h a ty us) : a < h.size := by
  obtain ⟨cl, A, r⟩ := A; exact A.lt
theorem Arl.other {a b : Addr} {ty : FieldType} {us : List Value} {sl : Nat} {v : Value} (A : Arl Z h b ty us) (W : Wr h h' a sl v) (q : b ≠ a) : Arl Z h' b ty us := by
  obtain ⟨cl, A, r⟩ := A; exact ⟨cl, A.other W q, r⟩
theorem Arl.keep {a : Addr} {ty : FieldType} {us : List Value} {ws : List Addr} (A : Arl Z h a ty us) (K : Keep h h' ws) (q : a ∉ ws) : Arl Z h' a ty us := by
  obtain ⟨cl, A, r⟩ := A; exact ⟨cl, ⟨K.2.1 a cl A.1 q, A.2⟩, r⟩
theorem Arl.set {a : Addr} {ty : FieldType} {us : List Value} {i : Nat} {v : Value} (A : Arl Z h a ty us) (W : Wr h h' a i v) : Arl Z h' a ty (us.set i v) := by
  obtain ⟨cl, A, r1, r2⟩ := A
  refine ⟨cl.setSlot i v, A.same W, ?_, by simpa using r2⟩
  simp [Cell.setSlot, r1]
theorem Arl.len {a : Addr} {ty : FieldType} {us : List Value} (A : Arl Z h a ty us) : us.length < 2 ^ 31 := by
  obtain ⟨cl, A, r1, r2⟩ := A; exact r2
theorem Arl.ne {a b : Addr} {ty : FieldType} {us : List Value} {C : String} {k : Nat} (A : Arl Z h a ty us) (E : Exa Z h b C) (wi : (Cond.instantiable C k).before a0 Z = true) : a ≠ b := by
  obtain ⟨cl, A, r⟩ := A; exact (ne_arr E wi A).symm
theorem ix_in {j : Int32} {i n : Nat} (hj : j.toInt = i) (hi : i < n) : ¬ (j < 0 ∨ n ≤ j.toNatClampNeg) ∧ j.toNatClampNeg = i := by
  have q : j.toNatClampNeg = i := by simp [Int32.toNatClampNeg, hj]
  refine ⟨?_, q⟩
  rw [q, Int32.lt_iff_toInt_lt, hj]
  simp only [Int32.reduceToInt]
  omega
theorem len32 {n : Nat} (h : n < 2 ^ 31) : n.toInt32.toInt = n := len_toInt h
/-- the branch is taken -/
def cmpT : ClassFile.Cond → Int32 → Int32 → Prop
  | .eq, x, y => x = y
  | .ne, x, y => ¬ x = y
  | .lt, x, y => x < y
  | .ge, x, y => ¬ x < y
  | .gt, x, y => y < x
  | .le, x, y => ¬ y < x
/-- the branch is not taken -/
def cmpF : ClassFile.Cond → Int32 → Int32 → Prop
  | .eq, x, y => ¬ x = y
  | .ne, x, y => x = y
  | .lt, x, y => ¬ x < y
  | .ge, x, y => x < y
  | .gt, x, y => ¬ y < x
  | .le, x, y => y < x
theorem cmp_t {cd : ClassFile.Cond} {x y : Int32} (q : cmpT cd x y) : if_icmp.holds cd x y = true := by
  cases cd
  · exact (teq q).1
  · exact (feq q).2
  · exact (tlt q).1
  · exact (flt q).2.1
  · exact (tlt q).2.2.1
  · exact (flt q).2.2.2
theorem cmp_f {cd : ClassFile.Cond} {x y : Int32} (q : cmpF cd x y) : if_icmp.holds cd x y = false := by
  cases cd
  · exact (feq q).1
  · exact (teq q).2
  · exact (flt q).1
  · exact (tlt q).2.1
  · exact (flt q).2.2.1
  · exact (tlt q).2.2.2
theorem cmp_or (cd : ClassFile.Cond) (x y : Int32) : cmpT cd x y ∨ cmpF cd x y := by
  cases cd
  · exact Classical.em _
  · exact (Classical.em _).symm
  · exact Classical.em _
  · exact (Classical.em _).symm
  · exact Classical.em _
  · exact (Classical.em _).symm
/-- a step that only moves the frame -/
theorem Wk.pu (X : Hr p l e R s m args below meth c Z own bs ml n0 rt T h cells slots) {a b : State} (f : At T m c below → p.tables.exec = Jvm.exec → c.code = bs → ∀ t, Steps p.tables e below b t → Steps p.tables e below a t) (k : Wk p.tables e below G b) : Wk p.tables e below G a := by
  obtain ⟨⟨locs, Y, N⟩, hx, hc, -⟩ := X
  exact Wk.go (f Y.here hx hc) k
/-- two roads that meet at b: it is walked once -/
theorem Wk.join {a : State} (b : State) (P : Prop) (k2 : P → Wk p.tables e below G b) (k1 : (P → Wk p.tables e below G b) → Wk p.tables e below G a) : Wk p.tables e below G a := k1 k2
theorem Wk.iload (X : Hr p l e R s m args below meth c Z own bs ml n0 rt T h cells slots) {i : Nat} {v : Int32} (hd : decode bs pc = .ok (.iload i, 2)) (pc' : Nat) (hp : pc + 2 = pc') (hl : Ls[i]? = some (.val (.int v))) (k : Wk p.tables e below G (T.setTop (mkF m pc' Ls (.int v :: st)))) : Wk p.tables e below G (T.setTop (mkF m pc Ls st)) := by
  subst hp
  exact Wk.pu X (fun hA hx hc t q => XS.iload hA hx rfl (hb hc hd) hl q) k
theorem Wk.iloadN (X : Hr p l e R s m args below meth c Z own bs ml n0 rt T h cells slots) {i : Fin 4} {v : Int32} (hd : decode bs pc = .ok (.iload_n i, 1)) (pc' : Nat) (hp : pc + 1 = pc') (hl : Ls[i.val]? = some (.val (.int v))) (k : Wk p.tables e below G (T.setTop (mkF m pc' Ls (.int v :: st)))) : Wk p.tables e below G (T.setTop (mkF m pc Ls st)) := by
  subst hp
  exact Wk.pu X (fun hA hx hc t q => XS.iloadN hA hx rfl (hb hc hd) hl q) k
theorem Wk.lload (X : Hr p l e R s m args below meth c Z own bs ml n0 rt T h cells slots) {i : Nat} {v : Int64} (hd : decode bs pc = .ok (.lload i, 2)) (pc' : Nat) (hp : pc + 2 = pc') (hl : Ls[i]? = some (.val (.long v))) (k : Wk p.tables e below G (T.setTop (mkF m pc' Ls (.long v :: st)))) : Wk p.tables e below G (T.setTop (mkF m pc Ls st)) := by
  subst hp
  exact Wk.pu X (fun hA hx hc t q => XS.lload hA hx rfl (hb hc hd) hl q) k
theorem Wk.lloadN (X : Hr p l e R s m args below meth c Z own bs ml n0 rt T h cells slots) {i : Fin 4} {v : Int64} (hd : decode bs pc = .ok (.lload_n i, 1)) (pc' : Nat) (hp : pc + 1 = pc') (hl : Ls[i.val]? = some (.val (.long v))) (k : Wk p.tables e below G (T.setTop (mkF m pc' Ls (.long v :: st)))) : Wk p.tables e below G (T.setTop (mkF m pc Ls st)) := by
  subst hp
  exact Wk.pu X (fun hA hx hc t q => XS.lloadN hA hx rfl (hb hc hd) hl q) k
theorem Wk.aload (X : Hr p l e R s m args below meth c Z own bs ml n0 rt T h cells slots) {i : Nat} {v : Value} (hd : decode bs pc = .ok (.aload i, 2)) (pc' : Nat) (hp : pc + 2 = pc') (hl : Ls[i]? = some (.val v)) (hv : v.isRef = true) (k : Wk p.tables e below G (T.setTop (mkF m pc' Ls (v :: st)))) : Wk p.tables e below G (T.setTop (mkF m pc Ls st)) := by
  subst hp
  exact Wk.pu X (fun hA hx hc t q => XS.aload hA hx rfl (hb hc hd) hl hv q) k
theorem Wk.aloadN (X : Hr p l e R s m args below meth c Z own bs ml n0 rt T h cells slots) {i : Fin 4} {v : Value} (hd : decode bs pc = .ok (.aload_n i, 1)) (pc' : Nat) (hp : pc + 1 = pc') (hl : Ls[i.val]? = some (.val v)) (hv : v.isRef = true) (k : Wk p.tables e below G (T.setTop (mkF m pc' Ls (v :: st)))) : Wk p.tables e below G (T.setTop (mkF m pc Ls st)) := by
  subst hp
  exact Wk.pu X (fun hA hx hc t q => XS.aloadN hA hx rfl (hb hc hd) hl hv q) k
theorem Wk.istore (X : Hr p l e R s m args below meth c Z own bs ml n0 rt T h cells slots) {i : Nat} {v : Int32} (hd : decode bs pc = .ok (.istore i, 2)) (pc' : Nat) (hp : pc + 2 = pc') (Ls' : Array Slot) (hl : storeLocals Ls i (.int v) = some Ls') (k : Wk p.tables e below G (T.setTop (mkF m pc' Ls' st))) : Wk p.tables e below G (T.setTop (mkF m pc Ls (.int v :: st))) := by
  subst hp
  exact Wk.pu X (fun hA hx hc t q => XS.istore hA hx rfl (hb hc hd) rfl hl q) k
theorem Wk.istoreN (X : Hr p l e R s m args below meth c Z own bs ml n0 rt T h cells slots) {i : Fin 4} {v : Int32} (hd : decode bs pc = .ok (.istore_n i, 1)) (pc' : Nat) (hp : pc + 1 = pc') (Ls' : Array Slot) (hl : storeLocals Ls i.val (.int v) = some Ls') (k : Wk p.tables e below G (T.setTop (mkF m pc' Ls' st))) : Wk p.tables e below G (T.setTop (mkF m pc Ls (.int v :: st))) := by
  subst hp
  exact Wk.pu X (fun hA hx hc t q => XS.istoreN hA hx rfl (hb hc hd) rfl hl q) k
theorem Wk.lstore (X : Hr p l e R s m args below meth c Z own bs ml n0 rt T h cells slots) {i : Nat} {v : Int64} (hd : decode bs pc = .ok (.lstore i, 2)) (pc' : Nat) (hp : pc + 2 = pc') (Ls' : Array Slot) (hl : storeLocals Ls i (.long v) = some Ls') (k : Wk p.tables e below G (T.setTop (mkF m pc' Ls' st))) : Wk p.tables e below G (T.setTop (mkF m pc Ls (.long v :: st))) := by
  subst hp
  exact Wk.pu X (fun hA hx hc t q => XS.lstore hA hx rfl (hb hc hd) rfl hl q) k
theorem Wk.lstoreN (X : Hr p l e R s m args below meth c Z own bs ml n0 rt T h cells slots) {i : Fin 4} {v : Int64} (hd : decode bs pc = .ok (.lstore_n i, 1)) (pc' : Nat) (hp : pc + 1 = pc') (Ls' : Array Slot) (hl : storeLocals Ls i.val (.long v) = some Ls') (k : Wk p.tables e below G (T.setTop (mkF m pc' Ls' st))) : Wk p.tables e below G (T.setTop (mkF m pc Ls (.long v :: st))) := by
  subst hp
  exact Wk.pu X (fun hA hx hc t q => XS.lstoreN hA hx rfl (hb hc hd) rfl hl q) k
theorem Wk.astore (X : Hr p l e R s m args below meth c Z own bs ml n0 rt T h cells slots) {i : Nat} {v : Value} (hd : decode bs pc = .ok (.astore i, 2)) (pc' : Nat) (hp : pc + 2 = pc') (Ls' : Array Slot) (hv : v.isRef = true) (hl : storeLocals Ls i v = some Ls') (k : Wk p.tables e below G (T.setTop (mkF m pc' Ls' st))) : Wk p.tables e below G (T.setTop (mkF m pc Ls (v :: st))) := by
  subst hp
  exact Wk.pu X (fun hA hx hc t q => XS.astore hA hx rfl (hb hc hd) rfl hv hl q) k
theorem Wk.astoreN (X : Hr p l e R s m args below meth c Z own bs ml n0 rt T h cells slots) {i : Fin 4} {v : Value} (hd : decode bs pc = .ok (.astore_n i, 1)) (pc' : Nat) (hp : pc + 1 = pc') (Ls' : Array Slot) (hv : v.isRef = true) (hl : storeLocals Ls i.val v = some Ls') (k : Wk p.tables e below G (T.setTop (mkF m pc' Ls' st))) : Wk p.tables e below G (T.setTop (mkF m pc Ls (v :: st))) := by
  subst hp
  exact Wk.pu X (fun hA hx hc t q => XS.astoreN hA hx rfl (hb hc hd) rfl hv hl q) k
theorem Wk.iinc (X : Hr p l e R s m args below meth c Z own bs ml n0 rt T h cells slots) {i : Nat} {cst : Int} {v : Int32} (hd : decode bs pc = .ok (.iinc i cst, 3)) (pc' : Nat) (hp : pc + 3 = pc') (Ls' : Array Slot) (hl : Ls[i]? = some (.val (.int v))) (hl' : storeLocals Ls i (.int (v + Int32.ofInt cst)) = some Ls') (k : Wk p.tables e below G (T.setTop (mkF m pc' Ls' st))) : Wk p.tables e below G (T.setTop (mkF m pc Ls st)) := by
  subst hp
  exact Wk.pu X (fun hA hx hc t q => XS.iinc hA hx rfl (hb hc hd) hl hl' q) k
theorem Wk.iconst (X : Hr p l e R s m args below meth c Z own bs ml n0 rt T h cells slots) {i : Int} (hd : decode bs pc = .ok (.iconst i, 1)) (pc' : Nat) (hp : pc + 1 = pc') (z : Int32) (hz : Int32.ofInt i = z) (k : Wk p.tables e below G (T.setTop (mkF m pc' Ls (.int z :: st)))) : Wk p.tables e below G (T.setTop (mkF m pc Ls st)) := by
  subst hp hz
  exact Wk.pu X (fun hA hx hc t q => XS.iconst hA hx rfl (hb hc hd) q) k
theorem Wk.bipush (X : Hr p l e R s m args below meth c Z own bs ml n0 rt T h cells slots) {i : Int} (hd : decode bs pc = .ok (.bipush i, 2)) (pc' : Nat) (hp : pc + 2 = pc') (z : Int32) (hz : (Int8.ofInt i).toInt32 = z) (k : Wk p.tables e below G (T.setTop (mkF m pc' Ls (.int z :: st)))) : Wk p.tables e below G (T.setTop (mkF m pc Ls st)) := by
  subst hp hz
  exact Wk.pu X (fun hA hx hc t q => XS.bipush hA hx rfl (hb hc hd) q) k
theorem Wk.sipush (X : Hr p l e R s m args below meth c Z own bs ml n0 rt T h cells slots) {i : Int} (hd : decode bs pc = .ok (.sipush i, 3)) (pc' : Nat) (hp : pc + 3 = pc') (z : Int32) (hz : (Int16.ofInt i).toInt32 = z) (k : Wk p.tables e below G (T.setTop (mkF m pc' Ls (.int z :: st)))) : Wk p.tables e below G (T.setTop (mkF m pc Ls st)) := by
  subst hp hz
  exact Wk.pu X (fun hA hx hc t q => XS.sipush hA hx rfl (hb hc hd) q) k
theorem Wk.lconst (X : Hr p l e R s m args below meth c Z own bs ml n0 rt T h cells slots) {i : Fin 2} (hd : decode bs pc = .ok (.lconst i, 1)) (pc' : Nat) (hp : pc + 1 = pc') (z : Int64) (hz : Int64.ofNat i = z) (k : Wk p.tables e below G (T.setTop (mkF m pc' Ls (.long z :: st)))) : Wk p.tables e below G (T.setTop (mkF m pc Ls st)) := by
  subst hp hz
  exact Wk.pu X (fun hA hx hc t q => XS.lconst hA hx rfl (hb hc hd) q) k
theorem Wk.aconstNull (X : Hr p l e R s m args below meth c Z own bs ml n0 rt T h cells slots) (hd : decode bs pc = .ok (.aconst_null, 1)) (pc' : Nat) (hp : pc + 1 = pc') (k : Wk p.tables e below G (T.setTop (mkF m pc' Ls (.null :: st)))) : Wk p.tables e below G (T.setTop (mkF m pc Ls st)) := by
  subst hp
  exact Wk.pu X (fun hA hx hc t q => XS.aconstNull hA hx rfl (hb hc hd) q) k
theorem Wk.iadd (X : Hr p l e R s m args below meth c Z own bs ml n0 rt T h cells slots) {x y : Int32} (hd : decode bs pc = .ok (.iadd, 1)) (pc' : Nat) (hp : pc + 1 = pc') (k : Wk p.tables e below G (T.setTop (mkF m pc' Ls (.int (x + y) :: st)))) : Wk p.tables e below G (T.setTop (mkF m pc Ls (.int y :: .int x :: st))) := by
  subst hp
  exact Wk.pu X (fun hA hx hc t q => XS.iadd hA hx rfl (hb hc hd) rfl q) k
theorem Wk.isub (X : Hr p l e R s m args below meth c Z own bs ml n0 rt T h cells slots) {x y : Int32} (hd : decode bs pc = .ok (.isub, 1)) (pc' : Nat) (hp : pc + 1 = pc') (k : Wk p.tables e below G (T.setTop (mkF m pc' Ls (.int (x - y) :: st)))) : Wk p.tables e below G (T.setTop (mkF m pc Ls (.int y :: .int x :: st))) := by
  subst hp
  exact Wk.pu X (fun hA hx hc t q => XS.isub hA hx rfl (hb hc hd) rfl q) k
theorem Wk.imul (X : Hr p l e R s m args below meth c Z own bs ml n0 rt T h cells slots) {x y : Int32} (hd : decode bs pc = .ok (.imul, 1)) (pc' : Nat) (hp : pc + 1 = pc') (k : Wk p.tables e below G (T.setTop (mkF m pc' Ls (.int (x * y) :: st)))) : Wk p.tables e below G (T.setTop (mkF m pc Ls (.int y :: .int x :: st))) := by
  subst hp
  exact Wk.pu X (fun hA hx hc t q => XS.imul hA hx rfl (hb hc hd) rfl q) k
theorem Wk.iand (X : Hr p l e R s m args below meth c Z own bs ml n0 rt T h cells slots) {x y : Int32} (hd : decode bs pc = .ok (.iand, 1)) (pc' : Nat) (hp : pc + 1 = pc') (k : Wk p.tables e below G (T.setTop (mkF m pc' Ls (.int (x &&& y) :: st)))) : Wk p.tables e below G (T.setTop (mkF m pc Ls (.int y :: .int x :: st))) := by
  subst hp
  exact Wk.pu X (fun hA hx hc t q => XS.iand hA hx rfl (hb hc hd) rfl q) k
theorem Wk.ior (X : Hr p l e R s m args below meth c Z own bs ml n0 rt T h cells slots) {x y : Int32} (hd : decode bs pc = .ok (.ior, 1)) (pc' : Nat) (hp : pc + 1 = pc') (k : Wk p.tables e below G (T.setTop (mkF m pc' Ls (.int (x ||| y) :: st)))) : Wk p.tables e below G (T.setTop (mkF m pc Ls (.int y :: .int x :: st))) := by
  subst hp
  exact Wk.pu X (fun hA hx hc t q => XS.ior hA hx rfl (hb hc hd) rfl q) k
theorem Wk.ixor (X : Hr p l e R s m args below meth c Z own bs ml n0 rt T h cells slots) {x y : Int32} (hd : decode bs pc = .ok (.ixor, 1)) (pc' : Nat) (hp : pc + 1 = pc') (k : Wk p.tables e below G (T.setTop (mkF m pc' Ls (.int (x ^^^ y) :: st)))) : Wk p.tables e below G (T.setTop (mkF m pc Ls (.int y :: .int x :: st))) := by
  subst hp
  exact Wk.pu X (fun hA hx hc t q => XS.ixor hA hx rfl (hb hc hd) rfl q) k
theorem Wk.ishl (X : Hr p l e R s m args below meth c Z own bs ml n0 rt T h cells slots) {x y : Int32} (hd : decode bs pc = .ok (.ishl, 1)) (pc' : Nat) (hp : pc + 1 = pc') (k : Wk p.tables e below G (T.setTop (mkF m pc' Ls (.int (x <<< (y &&& 31)) :: st)))) : Wk p.tables e below G (T.setTop (mkF m pc Ls (.int y :: .int x :: st))) := by
  subst hp
  exact Wk.pu X (fun hA hx hc t q => XS.ishl hA hx rfl (hb hc hd) rfl q) k
theorem Wk.ishr (X : Hr p l e R s m args below meth c Z own bs ml n0 rt T h cells slots) {x y : Int32} (hd : decode bs pc = .ok (.ishr, 1)) (pc' : Nat) (hp : pc + 1 = pc') (k : Wk p.tables e below G (T.setTop (mkF m pc' Ls (.int (x >>> (y &&& 31)) :: st)))) : Wk p.tables e below G (T.setTop (mkF m pc Ls (.int y :: .int x :: st))) := by
  subst hp
  exact Wk.pu X (fun hA hx hc t q => XS.ishr hA hx rfl (hb hc hd) rfl q) k
theorem Wk.iushr (X : Hr p l e R s m args below meth c Z own bs ml n0 rt T h cells slots) {x y : Int32} (hd : decode bs pc = .ok (.iushr, 1)) (pc' : Nat) (hp : pc + 1 = pc') (k : Wk p.tables e below G (T.setTop (mkF m pc' Ls (.int ((x.toUInt32 >>> (y &&& 31).toUInt32).toInt32) :: st)))) : Wk p.tables e below G (T.setTop (mkF m pc Ls (.int y :: .int x :: st))) := by
  subst hp
  exact Wk.pu X (fun hA hx hc t q => XS.iushr hA hx rfl (hb hc hd) rfl q) k
theorem Wk.ladd (X : Hr p l e R s m args below meth c Z own bs ml n0 rt T h cells slots) {x y : Int64} (hd : decode bs pc = .ok (.ladd, 1)) (pc' : Nat) (hp : pc + 1 = pc') (k : Wk p.tables e below G (T.setTop (mkF m pc' Ls (.long (x + y) :: st)))) : Wk p.tables e below G (T.setTop (mkF m pc Ls (.long y :: .long x :: st))) := by
  subst hp
  exact Wk.pu X (fun hA hx hc t q => XS.ladd hA hx rfl (hb hc hd) rfl q) k
theorem Wk.lsub (X : Hr p l e R s m args below meth c Z own bs ml n0 rt T h cells slots) {x y : Int64} (hd : decode bs pc = .ok (.lsub, 1)) (pc' : Nat) (hp : pc + 1 = pc') (k : Wk p.tables e below G (T.setTop (mkF m pc' Ls (.long (x - y) :: st)))) : Wk p.tables e below G (T.setTop (mkF m pc Ls (.long y :: .long x :: st))) := by
  subst hp
  exact Wk.pu X (fun hA hx hc t q => XS.lsub hA hx rfl (hb hc hd) rfl q) k
theorem Wk.lmul (X : Hr p l e R s m args below meth c Z own bs ml n0 rt T h cells slots) {x y : Int64} (hd : decode bs pc = .ok (.lmul, 1)) (pc' : Nat) (hp : pc + 1 = pc') (k : Wk p.tables e below G (T.setTop (mkF m pc' Ls (.long (x * y) :: st)))) : Wk p.tables e below G (T.setTop (mkF m pc Ls (.long y :: .long x :: st))) := by
  subst hp
  exact Wk.pu X (fun hA hx hc t q => XS.lmul hA hx rfl (hb hc hd) rfl q) k
theorem Wk.land (X : Hr p l e R s m args below meth c Z own bs ml n0 rt T h cells slots) {x y : Int64} (hd : decode bs pc = .ok (.land, 1)) (pc' : Nat) (hp : pc + 1 = pc') (k : Wk p.tables e below G (T.setTop (mkF m pc' Ls (.long (x &&& y) :: st)))) : Wk p.tables e below G (T.setTop (mkF m pc Ls (.long y :: .long x :: st))) := by
  subst hp
  exact Wk.pu X (fun hA hx hc t q => XS.land hA hx rfl (hb hc hd) rfl q) k
theorem Wk.lor (X : Hr p l e R s m args below meth c Z own bs ml n0 rt T h cells slots) {x y : Int64} (hd : decode bs pc = .ok (.lor, 1)) (pc' : Nat) (hp : pc + 1 = pc') (k : Wk p.tables e below G (T.setTop (mkF m pc' Ls (.long (x ||| y) :: st)))) : Wk p.tables e below G (T.setTop (mkF m pc Ls (.long y :: .long x :: st))) := by
  subst hp
  exact Wk.pu X (fun hA hx hc t q => XS.lor hA hx rfl (hb hc hd) rfl q) k
theorem Wk.lxor (X : Hr p l e R s m args below meth c Z own bs ml n0 rt T h cells slots) {x y : Int64} (hd : decode bs pc = .ok (.lxor, 1)) (pc' : Nat) (hp : pc + 1 = pc') (k : Wk p.tables e below G (T.setTop (mkF m pc' Ls (.long (x ^^^ y) :: st)))) : Wk p.tables e below G (T.setTop (mkF m pc Ls (.long y :: .long x :: st))) := by
  subst hp
  exact Wk.pu X (fun hA hx hc t q => XS.lxor hA hx rfl (hb hc hd) rfl q) k
theorem Wk.lshl (X : Hr p l e R s m args below meth c Z own bs ml n0 rt T h cells slots) {x : Int64} {y : Int32} (hd : decode bs pc = .ok (.lshl, 1)) (pc' : Nat) (hp : pc + 1 = pc') (k : Wk p.tables e below G (T.setTop (mkF m pc' Ls (.long (x <<< (y &&& 0x3f).toInt64) :: st)))) : Wk p.tables e below G (T.setTop (mkF m pc Ls (.int y :: .long x :: st))) := by
  subst hp
  exact Wk.pu X (fun hA hx hc t q => XS.lshl hA hx rfl (hb hc hd) rfl q) k
theorem Wk.lshr (X : Hr p l e R s m args below meth c Z own bs ml n0 rt T h cells slots) {x : Int64} {y : Int32} (hd : decode bs pc = .ok (.lshr, 1)) (pc' : Nat) (hp : pc + 1 = pc') (k : Wk p.tables e below G (T.setTop (mkF m pc' Ls (.long (x >>> (y &&& 0x3f).toInt64) :: st)))) : Wk p.tables e below G (T.setTop (mkF m pc Ls (.int y :: .long x :: st))) := by
  subst hp
  exact Wk.pu X (fun hA hx hc t q => XS.lshr hA hx rfl (hb hc hd) rfl q) k
theorem Wk.lushr (X : Hr p l e R s m args below meth c Z own bs ml n0 rt T h cells slots) {x : Int64} {y : Int32} (hd : decode bs pc = .ok (.lushr, 1)) (pc' : Nat) (hp : pc + 1 = pc') (k : Wk p.tables e below G (T.setTop (mkF m pc' Ls (.long ((x.toUInt64 >>> (y &&& 0x3f).toInt64.toUInt64).toInt64) :: st)))) : Wk p.tables e below G (T.setTop (mkF m pc Ls (.int y :: .long x :: st))) := by
  subst hp
  exact Wk.pu X (fun hA hx hc t q => XS.lushr hA hx rfl (hb hc hd) rfl q) k
theorem Wk.ineg (X : Hr p l e R s m args below meth c Z own bs ml n0 rt T h cells slots) {x : Int32} (hd : decode bs pc = .ok (.ineg, 1)) (pc' : Nat) (hp : pc + 1 = pc') (k : Wk p.tables e below G (T.setTop (mkF m pc' Ls (.int (-x) :: st)))) : Wk p.tables e below G (T.setTop (mkF m pc Ls (.int x :: st))) := by
  subst hp
  exact Wk.pu X (fun hA hx hc t q => XS.ineg hA hx rfl (hb hc hd) rfl q) k
theorem Wk.i2b (X : Hr p l e R s m args below meth c Z own bs ml n0 rt T h cells slots) {x : Int32} (hd : decode bs pc = .ok (.i2b, 1)) (pc' : Nat) (hp : pc + 1 = pc') (k : Wk p.tables e below G (T.setTop (mkF m pc' Ls (.int (x.toInt8.toInt32) :: st)))) : Wk p.tables e below G (T.setTop (mkF m pc Ls (.int x :: st))) := by
  subst hp
  exact Wk.pu X (fun hA hx hc t q => XS.i2b hA hx rfl (hb hc hd) rfl q) k
theorem Wk.i2c (X : Hr p l e R s m args below meth c Z own bs ml n0 rt T h cells slots) {x : Int32} (hd : decode bs pc = .ok (.i2c, 1)) (pc' : Nat) (hp : pc + 1 = pc') (k : Wk p.tables e below G (T.setTop (mkF m pc' Ls (.int (x.toUInt32.toUInt16.toUInt32.toInt32) :: st)))) : Wk p.tables e below G (T.setTop (mkF m pc Ls (.int x :: st))) := by
  subst hp
  exact Wk.pu X (fun hA hx hc t q => XS.i2c hA hx rfl (hb hc hd) rfl q) k
theorem Wk.i2s (X : Hr p l e R s m args below meth c Z own bs ml n0 rt T h cells slots) {x : Int32} (hd : decode bs pc = .ok (.i2s, 1)) (pc' : Nat) (hp : pc + 1 = pc') (k : Wk p.tables e below G (T.setTop (mkF m pc' Ls (.int (x.toInt16.toInt32) :: st)))) : Wk p.tables e below G (T.setTop (mkF m pc Ls (.int x :: st))) := by
  subst hp
  exact Wk.pu X (fun hA hx hc t q => XS.i2s hA hx rfl (hb hc hd) rfl q) k
theorem Wk.i2l (X : Hr p l e R s m args below meth c Z own bs ml n0 rt T h cells slots) {x : Int32} (hd : decode bs pc = .ok (.i2l, 1)) (pc' : Nat) (hp : pc + 1 = pc') (k : Wk p.tables e below G (T.setTop (mkF m pc' Ls (.long (x.toInt64) :: st)))) : Wk p.tables e below G (T.setTop (mkF m pc Ls (.int x :: st))) := by
  subst hp
  exact Wk.pu X (fun hA hx hc t q => XS.i2l hA hx rfl (hb hc hd) rfl q) k
theorem Wk.l2i (X : Hr p l e R s m args below meth c Z own bs ml n0 rt T h cells slots) {x : Int64} (hd : decode bs pc = .ok (.l2i, 1)) (pc' : Nat) (hp : pc + 1 = pc') (k : Wk p.tables e below G (T.setTop (mkF m pc' Ls (.int (x.toInt32) :: st)))) : Wk p.tables e below G (T.setTop (mkF m pc Ls (.long x :: st))) := by
  subst hp
  exact Wk.pu X (fun hA hx hc t q => XS.l2i hA hx rfl (hb hc hd) rfl q) k
theorem Wk.lneg (X : Hr p l e R s m args below meth c Z own bs ml n0 rt T h cells slots) {x : Int64} (hd : decode bs pc = .ok (.lneg, 1)) (pc' : Nat) (hp : pc + 1 = pc') (k : Wk p.tables e below G (T.setTop (mkF m pc' Ls (.long (-x) :: st)))) : Wk p.tables e below G (T.setTop (mkF m pc Ls (.long x :: st))) := by
  subst hp
  exact Wk.pu X (fun hA hx hc t q => XS.lneg hA hx rfl (hb hc hd) rfl q) k
theorem Wk.lcmp (X : Hr p l e R s m args below meth c Z own bs ml n0 rt T h cells slots) {x y : Int64} (hd : decode bs pc = .ok (.lcmp, 1)) (pc' : Nat) (hp : pc + 1 = pc') (k : Wk p.tables e below G (T.setTop (mkF m pc' Ls (.int (if x > y then 1 else if x = y then 0 else -1) :: st)))) : Wk p.tables e below G (T.setTop (mkF m pc Ls (.long y :: .long x :: st))) := by
  subst hp
  exact Wk.pu X (fun hA hx hc t q => XS.lcmp hA hx rfl (hb hc hd) rfl q) k
theorem Wk.dup (X : Hr p l e R s m args below meth c Z own bs ml n0 rt T h cells slots) {v : Value} (hd : decode bs pc = .ok (.dup, 1)) (pc' : Nat) (hp : pc + 1 = pc') (hv : v.category = 1) (k : Wk p.tables e below G (T.setTop (mkF m pc' Ls (v :: v :: st)))) : Wk p.tables e below G (T.setTop (mkF m pc Ls (v :: st))) := by
  subst hp
  exact Wk.pu X (fun hA hx hc t q => XS.dup hA hx rfl (hb hc hd) rfl hv q) k
theorem Wk.dupX1 (X : Hr p l e R s m args below meth c Z own bs ml n0 rt T h cells slots) {v w : Value} (hd : decode bs pc = .ok (.dup_x1, 1)) (pc' : Nat) (hp : pc + 1 = pc') (hv : v.category = 1) (hw : w.category = 1) (k : Wk p.tables e below G (T.setTop (mkF m pc' Ls (v :: w :: v :: st)))) : Wk p.tables e below G (T.setTop (mkF m pc Ls (v :: w :: st))) := by
  subst hp
  exact Wk.pu X (fun hA hx hc t q => XS.dupX1 hA hx rfl (hb hc hd) rfl hv hw q) k
theorem Wk.pop (X : Hr p l e R s m args below meth c Z own bs ml n0 rt T h cells slots) {v : Value} (hd : decode bs pc = .ok (.pop, 1)) (pc' : Nat) (hp : pc + 1 = pc') (hv : v.category = 1) (k : Wk p.tables e below G (T.setTop (mkF m pc' Ls st))) : Wk p.tables e below G (T.setTop (mkF m pc Ls (v :: st))) := by
  subst hp
  exact Wk.pu X (fun hA hx hc t q => XS.pop hA hx rfl (hb hc hd) rfl hv q) k
theorem Wk.irem (X : Hr p l e R s m args below meth c Z own bs ml n0 rt T h cells slots) {x y : Int32} (hd : decode bs pc = .ok (.irem, 1)) (pc' : Nat) (hp : pc + 1 = pc') (hy : y ≠ 0) (k : Wk p.tables e below G (T.setTop (mkF m pc' Ls (.int (x % y) :: st)))) : Wk p.tables e below G (T.setTop (mkF m pc Ls (.int y :: .int x :: st))) := by
  subst hp
  obtain ⟨⟨locs, Y, N⟩, hx, hc, -⟩ := X
  exact Wk.go (fun t q => iremM (g := mkF m pc Ls (.int y :: .int x :: st)) Y hx rfl (hb hc hd) rfl hy q) k
theorem Wk.idiv (X : Hr p l e R s m args below meth c Z own bs ml n0 rt T h cells slots) {x y : Int32} (hd : decode bs pc = .ok (.idiv, 1)) (pc' : Nat) (hp : pc + 1 = pc') (hy : y ≠ 0) (k : Wk p.tables e below G (T.setTop (mkF m pc' Ls (.int (x / y) :: st)))) : Wk p.tables e below G (T.setTop (mkF m pc Ls (.int y :: .int x :: st))) := by
  subst hp
  exact Wk.pu X (fun hA hx hc t q => XS.idiv hA hx rfl (hb hc hd) rfl hy q) k
theorem Wk.goto (X : Hr p l e R s m args below meth c Z own bs ml n0 rt T h cells slots) {o : Int} (hd : decode bs pc = .ok (.goto o, 3)) (pc' : Nat) (hp : 0 ≤ (pc : Int) + o ∧ ((pc : Int) + o).toNat = pc') (k : Wk p.tables e below G (T.setTop (mkF m pc' Ls st))) : Wk p.tables e below G (T.setTop (mkF m pc Ls st)) :=
  Wk.pu X (fun hA hx hc t q => XS.goto hA hx rfl (pc0 := pc) (pc' := pc') rfl (hb hc hd) hp.1 hp.2 q) k
theorem Wk.icmpT (X : Hr p l e R s m args below meth c Z own bs ml n0 rt T h cells slots) {cd : ClassFile.Cond} {o : Int} {x y : Int32} (hd : decode bs pc = .ok (.if_icmp cd o, 3)) (pt : Nat) (ht : 0 ≤ (pc : Int) + o ∧ ((pc : Int) + o).toNat = pt) (q : cmpT cd x y) (k : Wk p.tables e below G (T.setTop (mkF m pt Ls st))) : Wk p.tables e below G (T.setTop (mkF m pc Ls (.int y :: .int x :: st))) :=
  Wk.pu X (fun hA hx hc t z => XS.icmpYes hA hx rfl (pc0 := pc) (pc' := pt) rfl (hb hc hd) rfl (cmp_t q) ht.1 ht.2 z) k
theorem Wk.icmpF (X : Hr p l e R s m args below meth c Z own bs ml n0 rt T h cells slots) {cd : ClassFile.Cond} {o : Int} {x y : Int32} (hd : decode bs pc = .ok (.if_icmp cd o, 3)) (pf : Nat) (hf : pc + 3 = pf) (q : cmpF cd x y) (k : Wk p.tables e below G (T.setTop (mkF m pf Ls st))) : Wk p.tables e below G (T.setTop (mkF m pc Ls (.int y :: .int x :: st))) := by
  subst hf
  exact Wk.pu X (fun hA hx hc t z => XS.icmpNo hA hx rfl (hb hc hd) rfl (cmp_f q) z) k
theorem Wk.icmp (X : Hr p l e R s m args below meth c Z own bs ml n0 rt T h cells slots) {cd : ClassFile.Cond} {o : Int} {x y : Int32} (hd : decode bs pc = .ok (.if_icmp cd o, 3)) (pt pf : Nat) (ht : 0 ≤ (pc : Int) + o ∧ ((pc : Int) + o).toNat = pt) (hf : pc + 3 = pf) (kt : cmpT cd x y → Wk p.tables e below G (T.setTop (mkF m pt Ls st))) (kf : cmpF cd x y → Wk p.tables e below G (T.setTop (mkF m pf Ls st))) : Wk p.tables e below G (T.setTop (mkF m pc Ls (.int y :: .int x :: st))) :=
  (cmp_or cd x y).elim (fun q => Wk.icmpT X hd pt ht q (kt q)) (fun q => Wk.icmpF X hd pf hf q (kf q))
theorem Wk.ifcT (X : Hr p l e R s m args below meth c Z own bs ml n0 rt T h cells slots) {cd : ClassFile.Cond} {o : Int} {x : Int32} (hd : decode bs pc = .ok (.ifCond cd o, 3)) (pt : Nat) (ht : 0 ≤ (pc : Int) + o ∧ ((pc : Int) + o).toNat = pt) (q : cmpT cd x 0) (k : Wk p.tables e below G (T.setTop (mkF m pt Ls st))) : Wk p.tables e below G (T.setTop (mkF m pc Ls (.int x :: st))) :=
  Wk.pu X (fun hA hx hc t z => XS.ifYes hA hx rfl (pc0 := pc) (pc' := pt) rfl (hb hc hd) rfl ((if0 _ _).trans (cmp_t q)) ht.1 ht.2 z) k
theorem Wk.ifcF (X : Hr p l e R s m args below meth c Z own bs ml n0 rt T h cells slots) {cd : ClassFile.Cond} {o : Int} {x : Int32} (hd : decode bs pc = .ok (.ifCond cd o, 3)) (pf : Nat) (hf : pc + 3 = pf) (q : cmpF cd x 0) (k : Wk p.tables e below G (T.setTop (mkF m pf Ls st))) : Wk p.tables e below G (T.setTop (mkF m pc Ls (.int x :: st))) := by
  subst hf
  exact Wk.pu X (fun hA hx hc t z => XS.ifNo hA hx rfl (hb hc hd) rfl ((if0 _ _).trans (cmp_f q)) z) k
theorem Wk.ifc (X : Hr p l e R s m args below meth c Z own bs ml n0 rt T h cells slots) {cd : ClassFile.Cond} {o : Int} {x : Int32} (hd : decode bs pc = .ok (.ifCond cd o, 3)) (pt pf : Nat) (ht : 0 ≤ (pc : Int) + o ∧ ((pc : Int) + o).toNat = pt) (hf : pc + 3 = pf) (kt : cmpT cd x 0 → Wk p.tables e below G (T.setTop (mkF m pt Ls st))) (kf : cmpF cd x 0 → Wk p.tables e below G (T.setTop (mkF m pf Ls st))) : Wk p.tables e below G (T.setTop (mkF m pc Ls (.int x :: st))) :=
  (cmp_or cd x 0).elim (fun q => Wk.ifcT X hd pt ht q (kt q)) (fun q => Wk.ifcF X hd pf hf q (kf q))
theorem Wk.ifnullT (X : Hr p l e R s m args below meth c Z own bs ml n0 rt T h cells slots) {o : Int} (hd : decode bs pc = .ok (.ifnull o, 3)) (pt : Nat) (ht : 0 ≤ (pc : Int) + o ∧ ((pc : Int) + o).toNat = pt) (k : Wk p.tables e below G (T.setTop (mkF m pt Ls st))) : Wk p.tables e below G (T.setTop (mkF m pc Ls (.null :: st))) :=
  Wk.pu X (fun hA hx hc t z => XS.ifnullYes hA hx rfl (pc0 := pc) (pc' := pt) rfl (hb hc hd) rfl ht.1 ht.2 z) k
theorem Wk.ifnullF (X : Hr p l e R s m args below meth c Z own bs ml n0 rt T h cells slots) {o : Int} {b : Addr} (hd : decode bs pc = .ok (.ifnull o, 3)) (pf : Nat) (hf : pc + 3 = pf) (k : Wk p.tables e below G (T.setTop (mkF m pf Ls st))) : Wk p.tables e below G (T.setTop (mkF m pc Ls (.ref b :: st))) := by
  subst hf
  exact Wk.pu X (fun hA hx hc t z => XS.ifnullNo hA hx rfl (hb hc hd) rfl z) k
theorem Wk.ifnonnullT (X : Hr p l e R s m args below meth c Z own bs ml n0 rt T h cells slots) {o : Int} {b : Addr} (hd : decode bs pc = .ok (.ifnonnull o, 3)) (pt : Nat) (ht : 0 ≤ (pc : Int) + o ∧ ((pc : Int) + o).toNat = pt) (k : Wk p.tables e below G (T.setTop (mkF m pt Ls st))) : Wk p.tables e below G (T.setTop (mkF m pc Ls (.ref b :: st))) :=
  Wk.pu X (fun hA hx hc t z => XS.ifnonnullYes hA hx rfl (pc0 := pc) (pc' := pt) rfl (hb hc hd) rfl ht.1 ht.2 z) k
theorem Wk.ifnonnullF (X : Hr p l e R s m args below meth c Z own bs ml n0 rt T h cells slots) {o : Int} (hd : decode bs pc = .ok (.ifnonnull o, 3)) (pf : Nat) (hf : pc + 3 = pf) (k : Wk p.tables e below G (T.setTop (mkF m pf Ls st))) : Wk p.tables e below G (T.setTop (mkF m pc Ls (.null :: st))) := by
  subst hf
  exact Wk.pu X (fun hA hx hc t z => XS.ifnonnullNo hA hx rfl (hb hc hd) rfl z) k
theorem Wk.acmpT (X : Hr p l e R s m args below meth c Z own bs ml n0 rt T h cells slots) {cd : ClassFile.ACond} {o : Int} {a b : Addr} (hd : decode bs pc = .ok (.if_acmp cd o, 3)) (pt : Nat) (ht : 0 ≤ (pc : Int) + o ∧ ((pc : Int) + o).toNat = pt) (q : if_acmp.holds cd (some a) (some b) = true) (k : Wk p.tables e below G (T.setTop (mkF m pt Ls st))) : Wk p.tables e below G (T.setTop (mkF m pc Ls (.ref b :: .ref a :: st))) :=
  Wk.pu X (fun hA hx hc t z => XS.acmpYes hA hx rfl (pc0 := pc) (pc' := pt) rfl (hb hc hd) rfl q ht.1 ht.2 z) k
theorem Wk.acmpF (X : Hr p l e R s m args below meth c Z own bs ml n0 rt T h cells slots) {cd : ClassFile.ACond} {o : Int} {a b : Addr} (hd : decode bs pc = .ok (.if_acmp cd o, 3)) (pf : Nat) (hf : pc + 3 = pf) (q : if_acmp.holds cd (some a) (some b) = false) (k : Wk p.tables e below G (T.setTop (mkF m pf Ls st))) : Wk p.tables e below G (T.setTop (mkF m pc Ls (.ref b :: .ref a :: st))) := by
  subst hf
  exact Wk.pu X (fun hA hx hc t z => XS.acmpNo hA hx rfl (hb hc hd) rfl q z) k
theorem Wk.ldcInt (X : Hr p l e R s m args below meth c Z own bs ml n0 rt T h cells slots) {i : Nat} {v : Int32} (w : (Cond.constant own i v).before a0 Z = true) (hd : decode bs pc = .ok (.ldc i, 2)) (pc' : Nat) (hp : pc + 2 = pc') (k : Wk p.tables e below G (T.setTop (mkF m pc' Ls (.int v :: st)))) : Wk p.tables e below G (T.setTop (mkF m pc Ls st)) := by
  subst hp
  obtain ⟨⟨locs, Y, N⟩, hx, hc, -, hZ, ho, -⟩ := X
  exact Wk.go (fun t q => Y.ldcInt hx ho (mvT hZ w) (g := mkF m pc Ls st) rfl (hb hc hd) t q) k
theorem Wk.ldc2Long (X : Hr p l e R s m args below meth c Z own bs ml n0 rt T h cells slots) {i : Nat} {v : Int64} (w : (Cond.constantLong own i v).before a0 Z = true) (hd : decode bs pc = .ok (.ldc2_w i, 3)) (pc' : Nat) (hp : pc + 3 = pc') (k : Wk p.tables e below G (T.setTop (mkF m pc' Ls (.long v :: st)))) : Wk p.tables e below G (T.setTop (mkF m pc Ls st)) := by
  subst hp
  obtain ⟨⟨locs, Y, N⟩, hx, hc, -, hZ, ho, -⟩ := X
  exact Wk.go (fun t q => Y.ldc2Long hx ho (mvT hZ w) (g := mkF m pc Ls st) rfl (hb hc hd) t q) k
theorem Arl.at {a : Addr} {ty : FieldType} {us : List Value} {j : Int32} {i : Nat} {v : Value} (A : Arl Z h a ty us) (hj : j.toInt = i) (hv : us[i]? = some v) : ∃ cl : Cell, Arr Z h a cl ty ∧ ¬ (j < 0 ∨ cl.slots.size ≤ j.toNatClampNeg) ∧ cl.slots[j.toNatClampNeg]? = some v := by
  obtain ⟨cl, A, r1, r2⟩ := A
  have hi : i < us.length := (List.getElem?_eq_some_iff.mp hv).1
  have q := ix_in (n := cl.slots.size) hj (by rw [r1]; simpa using hi)
  exact ⟨cl, A, q.1, by rw [q.2, r1]; simpa using hv⟩
theorem Wk.iaload (X : Hr p l e R s m args below meth c Z own bs ml n0 rt T h cells slots) {a : Addr} {us : List Value} {j : Int32} {v : Value} (A : Arl Z h a .int us) (i : Nat) (hj : j.toInt = i) (hv : us[i]? = some v) (hd : decode bs pc = .ok (.iaload, 1)) (pc' : Nat) (hp : pc + 1 = pc') (k : Wk p.tables e below G (T.setTop (mkF m pc' Ls (v :: st)))) : Wk p.tables e below G (T.setTop (mkF m pc Ls (.int j :: .ref a :: st))) := by
  subst hp
  obtain ⟨⟨locs, Y, N⟩, hx, hc, -, hZ, ho, -, -, eT⟩ := X
  obtain ⟨cl, A, q1, q2⟩ := A.at hj hv
  exact Wk.go (fun t q => Y.iaload hx (by rw [eT]; exact A.1) (State.isArrayOf_alike hZ.alike A.2.1) A.2.2 q1 q2 (g := mkF m pc Ls (.int j :: .ref a :: st)) rfl rfl (hb hc hd) t q) k
theorem Wk.laload (X : Hr p l e R s m args below meth c Z own bs ml n0 rt T h cells slots) {a : Addr} {us : List Value} {j : Int32} {v : Value} (A : Arl Z h a .long us) (i : Nat) (hj : j.toInt = i) (hv : us[i]? = some v) (hd : decode bs pc = .ok (.laload, 1)) (pc' : Nat) (hp : pc + 1 = pc') (k : Wk p.tables e below G (T.setTop (mkF m pc' Ls (v :: st)))) : Wk p.tables e below G (T.setTop (mkF m pc Ls (.int j :: .ref a :: st))) := by
  subst hp
  obtain ⟨⟨locs, Y, N⟩, hx, hc, -, hZ, ho, -, -, eT⟩ := X
  obtain ⟨cl, A, q1, q2⟩ := A.at hj hv
  exact Wk.go (fun t q => Y.laload hx (by rw [eT]; exact A.1) (State.isArrayOf_alike hZ.alike A.2.1) A.2.2 q1 q2 (g := mkF m pc Ls (.int j :: .ref a :: st)) rfl rfl (hb hc hd) t q) k
theorem Wk.baload (X : Hr p l e R s m args below meth c Z own bs ml n0 rt T h cells slots) {a : Addr} {us : List Value} {j : Int32} {v : Value} (A : Arl Z h a .byte us) (i : Nat) (hj : j.toInt = i) (hv : us[i]? = some v) (hd : decode bs pc = .ok (.baload, 1)) (pc' : Nat) (hp : pc + 1 = pc') (k : Wk p.tables e below G (T.setTop (mkF m pc' Ls (v :: st)))) : Wk p.tables e below G (T.setTop (mkF m pc Ls (.int j :: .ref a :: st))) := by
  subst hp
  obtain ⟨⟨locs, Y, N⟩, hx, hc, -, hZ, ho, -, -, eT⟩ := X
  obtain ⟨cl, A, q1, q2⟩ := A.at hj hv
  exact Wk.go (fun t q => Y.baloadBytes hx (by rw [eT]; exact A.1) (State.isArrayOf_alike hZ.alike A.2.1) A.2.2 q1 q2 (g := mkF m pc Ls (.int j :: .ref a :: st)) rfl rfl (hb hc hd) t q) k
theorem Wk.arraylength (X : Hr p l e R s m args below meth c Z own bs ml n0 rt T h cells slots) {a : Addr} {ty : FieldType} {us : List Value} (A : Arl Z h a ty us) (hd : decode bs pc = .ok (.arraylength, 1)) (pc' : Nat) (hp : pc + 1 = pc') (z : Int32) (hz : us.length.toInt32 = z) (k : Wk p.tables e below G (T.setTop (mkF m pc' Ls (.int z :: st)))) : Wk p.tables e below G (T.setTop (mkF m pc Ls (.ref a :: st))) := by
  subst hp hz
  obtain ⟨⟨locs, Y, N⟩, hx, hc, -, hZ, ho, -, -, eT⟩ := X
  obtain ⟨cl, A, r1, r2⟩ := A
  have hs : cl.slots.size = us.length := by rw [r1]; simp
  rw [← hs] at k
  exact Wk.go (fun t q => Y.arraylength hx (by rw [eT]; exact A.1) (State.isArrayOf_alike hZ.alike A.2.1) (g := mkF m pc Ls (.ref a :: st)) rfl rfl (hb hc hd) t q) k
theorem Wk.getfield (X : Hr p l e R s m args below meth c Z own bs ml n0 rt T h cells slots) {i : Nat} {R0 O n d : String} {a : Addr} {v : Value} (w : (Cond.fieldLink own i R0 n d).before a0 Z = true) (via : Via Z R0 O n d) (F : Fld Z h a O n d v) (hd : decode bs pc = .ok (.getfield i, 3)) (pc' : Nat) (hp : pc + 3 = pc')
    (k : ∀ T', Hr p l e R s m args below meth c Z own bs ml n0 rt T' h cells slots → Wk p.tables e below G (T'.setTop (mkF m pc' Ls (v :: st)))) : Wk p.tables e below G (T.setTop (mkF m pc Ls (.ref a :: st))) := by
  subst hp
  obtain ⟨⟨locs, Y, N⟩, hx, hc, hm, hZ, ho, hr, hl, eT⟩ := X
  obtain ⟨T', Y', e', q⟩ := getF Y hx hZ ho (host := "") (Or.inl w) via eT F (g := mkF m pc Ls (.ref a :: st)) rfl rfl (hb hc hd)
  exact Wk.go q (k T' ⟨⟨locs, Y', N⟩, hx, hc, hm, hZ, ho, hr, hl, e'⟩)
theorem Wk.putfield (X : Hr p l e R s m args below meth c Z own bs ml n0 rt T h cells slots) {i kk : Nat} {R0 O n d C : String} {ty : FieldType} {a : Addr} {v old : Value} (w : (Cond.fieldLink own i R0 n d).before a0 Z = true) (via : Via Z R0 O n d) (F : Fld Z h a O n d old) (E : Exa Z h a C) (L : (Cond.lays C O n d).before a0 Z = true ∨ ((Cond.laysFinal C O n d).before a0 Z = true ∧ own = O ∧ meth.name = "<init>")) (wi : (Cond.instantiable C kk).before a0 Z = true)
    (hty : parseFieldDescriptor d = some ty) (hn : narrow ty v = v) (hf : fits ty v = true) (hnew : n0 ≤ a) (hd : decode bs pc = .ok (.putfield i, 3)) (pc' : Nat) (hp : pc + 3 = pc')
    (k : ∀ T' h', Hr p l e R s m args below meth c Z own bs ml n0 rt T' h' cells slots → Wr h h' a (Jvm.RoadKit.slotOf Z O n d) v → Wk p.tables e below G (T'.setTop (mkF m pc' Ls st))) : Wk p.tables e below G (T.setTop (mkF m pc Ls (v :: .ref a :: st))) := by
  subst hp
  obtain ⟨⟨locs, Y, N⟩, hx, hc, hm, hZ, ho, hr, hl, eT⟩ := X
  obtain ⟨T', h', Y', e', W, q⟩ := putF Y hx hZ ho (host := "") (Or.inl w) via eT F E L wi hty hn hf (g := mkF m pc Ls (v :: .ref a :: st)) rfl rfl (hb hc hd)
  exact Wk.go q (k T' h' ⟨⟨_, Y', Fr.snoc Y' N hnew⟩, hx, hc, hm, hZ, ho, hr, hl, e'⟩ W)
theorem Wk.getstatic (X : Hr p l e R s m args below meth c Z own bs ml n0 rt T h cells slots) {i : Nat} {R0 O n d : String} {v : Value} (w : (Cond.fieldLink own i R0 n d).before a0 Z = true) (via : Via Z R0 O n d) (F : Sta Z h O n d v) (hd : decode bs pc = .ok (.getstatic i, 3)) (pc' : Nat) (hp : pc + 3 = pc')
    (k : ∀ T', Hr p l e R s m args below meth c Z own bs ml n0 rt T' h cells slots → Wk p.tables e below G (T'.setTop (mkF m pc' Ls (v :: st)))) : Wk p.tables e below G (T.setTop (mkF m pc Ls st)) := by
  subst hp
  obtain ⟨⟨locs, Y, N⟩, hx, hc, hm, hZ, ho, hr, hl, eT⟩ := X
  obtain ⟨T', Y', e', q⟩ := getS Y hx hZ (host := "") ho w via eT F (g := mkF m pc Ls st) rfl (hb hc hd)
  exact Wk.go q (k T' ⟨⟨locs, Y', N⟩, hx, hc, hm, hZ, ho, hr, hl, e'⟩)
theorem Wk.new (X : Hr p l e R s m args below meth c Z own bs ml n0 rt T h cells slots) {i n : Nat} {C : String} (w : (Cond.classLink own i C).before a0 Z = true) (wi : (Cond.instantiable C n).before a0 Z = true) (wz : (Cond.initialized C).before a0 Z = true) (hd : decode bs pc = .ok (.new i, 3)) (pc' : Nat) (hp : pc + 3 = pc') (hce : cells + 1 ≤ R.cells) (hsl : slots + n ≤ R.slots)
    (k : ∀ T' h' a, a = h.size → Hr p l e R s m args below meth c Z own bs ml n0 rt T' h' (cells + 1) (slots + n) → Ext h h' → Exa Z h' a C → (∀ {O nm d : String} {ty : FieldType}, Laid Z a0 C O nm d → parseFieldDescriptor d = some ty → Fld Z h' a O nm d (defaultValue ty)) → Wk p.tables e below G (T'.setTop (mkF m pc' Ls (.ref a :: st)))) : Wk p.tables e below G (T.setTop (mkF m pc Ls st)) := by
  subst hp
  obtain ⟨⟨locs, Y, N⟩, hx, hc, hm, hZ, ho, hr, hl, eT⟩ := X
  obtain ⟨T', h', Y', e', E, A, D, -, q⟩ := newO Y hx hZ ho w wi wz eT (g := mkF m pc Ls st) rfl (hb hc hd) hce hsl
  exact Wk.go q (k T' h' _ rfl ⟨⟨_, Y', N⟩, hx, hc, hm, hZ, ho, hr, hl, e'⟩ E A D)
theorem Wk.newarray (X : Hr p l e R s m args below meth c Z own bs ml n0 rt T h cells slots) {aty : ArrayType} {n : Int32} (w : (Cond.arrayClass (newarray.typeOf aty)).before a0 Z = true) (hd : decode bs pc = .ok (.newarray aty, 2)) (pc' : Nat) (hp : pc + 2 = pc') (i : Nat) (hn : n.toInt = i) (cap : Nat) (hcap : i ≤ cap) (hbig : cap * 8 ≤ 536870912) (hce : cells + 1 ≤ R.cells) (hsl : slots + cap ≤ R.slots)
    (k : ∀ T' h' a, a = h.size → Hr p l e R s m args below meth c Z own bs ml n0 rt T' h' (cells + 1) (slots + cap) → Ext h h' → Arl Z h' a (newarray.typeOf aty) (List.replicate i (defaultValue (newarray.typeOf aty))) → Wk p.tables e below G (T'.setTop (mkF m pc' Ls (.ref a :: st)))) : Wk p.tables e below G (T.setTop (mkF m pc Ls (.int n :: st))) := by
  subst hp
  obtain ⟨⟨locs, Y, N⟩, hx, hc, hm, hZ, ho, hr, hl, eT⟩ := X
  have hi : n.toNatClampNeg = i := by simp [Int32.toNatClampNeg, hn]
  have h0 : ¬ n < 0 := by rw [Int32.lt_iff_toInt_lt, hn]; simp only [Int32.reduceToInt]; omega
  obtain ⟨T', h', cA, Y', e', E, A, q⟩ := newP Y hx hZ w eT (g := mkF m pc Ls (.int n :: st)) rfl (hb hc hd) rfl h0 (cap := cap) (by rw [hi]; exact hcap) hbig hce hsl
  refine Wk.go q (k T' h' _ rfl ⟨⟨_, Y', N⟩, hx, hc, hm, hZ, ho, hr, hl, e'⟩ E ⟨_, A, ?_, by simp; omega⟩)
  simp [newA, hi]
theorem Wk.iastore (X : Hr p l e R s m args below meth c Z own bs ml n0 rt T h cells slots) {a : Addr} {us : List Value} {j v : Int32} (A : Arl Z h a .int us) (hnew : n0 ≤ a) (i : Nat) (hj : j.toInt = i) (hi : i < us.length) (hd : decode bs pc = .ok (.iastore, 1)) (pc' : Nat) (hp : pc + 1 = pc')
    (k : ∀ T' h', Hr p l e R s m args below meth c Z own bs ml n0 rt T' h' cells slots → Wr h h' a i (.int v) → Wk p.tables e below G (T'.setTop (mkF m pc' Ls st))) : Wk p.tables e below G (T.setTop (mkF m pc Ls (.int v :: .int j :: .ref a :: st))) := by
  subst hp
  obtain ⟨⟨locs, Y, N⟩, hx, hc, hm, hZ, ho, hr, hl, eT⟩ := X
  obtain ⟨cl, A, q1, -⟩ := A.at hj (List.getElem?_eq_getElem hi)
  obtain ⟨T', h', Y', e', W, q⟩ := stI Y hx hZ eT A q1 (g := mkF m pc Ls (.int v :: .int j :: .ref a :: st)) rfl rfl (hb hc hd)
  rw [(ix_in hj hi).2] at W
  exact Wk.go q (k T' h' ⟨⟨_, Y', Fr.snoc Y' N hnew⟩, hx, hc, hm, hZ, ho, hr, hl, e'⟩ W)
theorem Wk.lastore (X : Hr p l e R s m args below meth c Z own bs ml n0 rt T h cells slots) {a : Addr} {us : List Value} {j : Int32} {v : Int64} (A : Arl Z h a .long us) (hnew : n0 ≤ a) (i : Nat) (hj : j.toInt = i) (hi : i < us.length) (hd : decode bs pc = .ok (.lastore, 1)) (pc' : Nat) (hp : pc + 1 = pc')
    (k : ∀ T' h', Hr p l e R s m args below meth c Z own bs ml n0 rt T' h' cells slots → Wr h h' a i (.long v) → Wk p.tables e below G (T'.setTop (mkF m pc' Ls st))) : Wk p.tables e below G (T.setTop (mkF m pc Ls (.long v :: .int j :: .ref a :: st))) := by
  subst hp
  obtain ⟨⟨locs, Y, N⟩, hx, hc, hm, hZ, ho, hr, hl, eT⟩ := X
  obtain ⟨cl, A, q1, -⟩ := A.at hj (List.getElem?_eq_getElem hi)
  obtain ⟨T', h', Y', e', W, q⟩ := stJ Y hx hZ eT A q1 (g := mkF m pc Ls (.long v :: .int j :: .ref a :: st)) rfl rfl (hb hc hd)
  rw [(ix_in hj hi).2] at W
  exact Wk.go q (k T' h' ⟨⟨_, Y', Fr.snoc Y' N hnew⟩, hx, hc, hm, hZ, ho, hr, hl, e'⟩ W)
theorem Wk.bastore (X : Hr p l e R s m args below meth c Z own bs ml n0 rt T h cells slots) {a : Addr} {us : List Value} {j v : Int32} (A : Arl Z h a .byte us) (hnew : n0 ≤ a) (i : Nat) (hj : j.toInt = i) (hi : i < us.length) (hd : decode bs pc = .ok (.bastore, 1)) (pc' : Nat) (hp : pc + 1 = pc')
    (k : ∀ T' h', Hr p l e R s m args below meth c Z own bs ml n0 rt T' h' cells slots → Wr h h' a i (.int v.toInt8.toInt32) → Wk p.tables e below G (T'.setTop (mkF m pc' Ls st))) : Wk p.tables e below G (T.setTop (mkF m pc Ls (.int v :: .int j :: .ref a :: st))) := by
  subst hp
  obtain ⟨⟨locs, Y, N⟩, hx, hc, hm, hZ, ho, hr, hl, eT⟩ := X
  obtain ⟨cl, A, q1, -⟩ := A.at hj (List.getElem?_eq_getElem hi)
  obtain ⟨T', h', Y', e', W, q⟩ := stB Y hx hZ eT A q1 (g := mkF m pc Ls (.int v :: .int j :: .ref a :: st)) rfl rfl (hb hc hd)
  rw [(ix_in hj hi).2] at W
  exact Wk.go q (k T' h' ⟨⟨_, Y', Fr.snoc Y' N hnew⟩, hx, hc, hm, hZ, ho, hr, hl, e'⟩ W)
theorem Wk.initO (X : Hr p l e R s m args below meth c Z own bs ml n0 rt T h cells slots) {i : Nat} {a : Addr} (w1 : (Cond.methodLink own i Lib.objectInit).before a0 Z = true) (w2 : (Cond.instanceMethod Lib.objectInit).before a0 Z = true) (w3 : (Cond.code Lib.objectInit object_method_1_code 1 none).before a0 Z = true) (hls : Ls.size = ml) (hd : decode bs pc = .ok (.invokespecial i, 3)) (pc' : Nat) (hp : pc + 3 = pc') (hf : 1 ≤ R.frames) (W : Nat) (hW : (st.map fun v => v.category).sum ≤ W) (hlo : W + 12 ≤ R.locals)
    (k : ∀ T', Hr p l e R s m args below meth c Z own bs ml n0 rt T' h cells slots → Wk p.tables e below G (T'.setTop (mkF m pc' Ls st))) : Wk p.tables e below G (T.setTop (mkF m pc Ls (.ref a :: st))) := by
  subst hp
  obtain ⟨⟨locs, Y, N⟩, hx, hc, hm, hZ, ho, hr, hl, eT⟩ := X
  obtain ⟨T', Y', e', q⟩ := Jvm.RoadKit.initO Y hx hZ ho w1 w2 w3 eT (g := mkF m pc Ls (.ref a :: st)) rfl (by rw [hm]; exact hls) rfl (hb hc hd) hf (W := W) (by show 2 * 0 + _ ≤ _; omega) hlo
  exact Wk.go q (k T' ⟨⟨locs, Y', N⟩, hx, hc, hm, hZ, ho, hr, hl, e'⟩)
theorem Wk.callS (X : Hr p l e R s m args below meth c Z own bs ml n0 rt T h cells slots) {i : Nat} {y : MethodName} {bytes : ByteArray} {maxL : Nat} {rt' : Option FieldType} {rm : Room} {as' : Array Value} {Q : Option Value → Heap → Prop} (w1 : (Cond.methodLink own i y).before a0 Z = true) (w2 : (Cond.static y).before a0 Z = true) (w3 : (Cond.initialized y.cls).before a0 Z = true) (w4 : (Cond.code y bytes maxL rt').before a0 Z = true) (hM : Con l y bytes maxL rt' rm [] Z as' h n0 Q)
    (hy : y.cls ≠ "java/lang/invoke/MethodHandle" ∧ y.cls ≠ "java/lang/invoke/VarHandle") {ps : List FieldType} {r : Option FieldType} (hds : parseMethodDescriptor y.desc = some ⟨ps, r⟩) (argsL rest : List Value) (hlen : argsL.length = ps.length) (hst : st = argsL.reverse ++ rest) (has : argsL.toArray = as') (hls : Ls.size = ml) (W : Nat) (hW : (rest.map fun v => v.category).sum ≤ W) (hfr : rm.frames + 1 ≤ R.frames) (hlo : W + (maxL + 11) + rm.locals ≤ R.locals) (hce : cells + rm.cells ≤ R.cells) (hsl : slots + rm.slots ≤ R.slots) (cells' slots' : Nat) (hc' : cells + rm.cells = cells') (hs' : slots + rm.slots = slots')
    (hd : decode bs pc = .ok (.invokestatic i, 3)) (pc' : Nat) (hp : pc + 3 = pc')
    (k : ∀ v T' h', Hr p l e R s m args below meth c Z own bs ml n0 rt T' h' cells' slots' → Q v h' → Wk p.tables e below G (T'.setTop (mkF m pc' Ls (v.toList ++ rest)))) : Wk p.tables e below G (T.setTop (mkF m pc Ls st)) := by
  subst hp hc' hs' hst has
  obtain ⟨⟨locs, Y, N⟩, hx, hc, hm, hZ, ho, hr, hl, eT⟩ := X
  obtain ⟨v, _, ⟨T1, L1, k1, n1⟩, -, Y1, ⟨Lc, hQ, l1, y1, z1⟩, q⟩ := Jvm.LawKit.callS Y hx (y := y) ho (mvT hZ w1) (mvT hZ w2) (mvT hZ w3) (mvT hZ w4) hy (backOf (W := W) (Q := fun v h L => Q v h ∧ Fr n0 L) hM hZ w4 w3 hfr hlo) (g := mkF m pc Ls (argsL.reverse ++ rest)) rfl (by rw [hm]; exact hls) (argsL := argsL) (rest := rest) (lenOf hds hlen) rfl (by show 2 * 0 + _ ≤ _; omega) (hb hc hd) (fun _ _ => ⟨rfl, eT, hce, hsl⟩)
  dsimp only [Pt.U, Pt.locs, Pt.cells, Pt.slots] at Y1 l1 y1 z1 q hQ
  subst l1 y1 z1
  exact Wk.go q (k v T1 T1.heap ⟨⟨_, Y1, Fr.app N hQ.2⟩, hx, hc, hm, hZ, ho, hr, hl, rfl⟩ hQ.1)
theorem Wk.callI (X : Hr p l e R s m args below meth c Z own bs ml n0 rt T h cells slots) {i : Nat} {y : MethodName} {bytes : ByteArray} {maxL : Nat} {rm : Room} {as' : Array Value} {a : Addr} {Q : Option Value → Heap → Prop} (hini : y.name = "<init>") (w1 : (Cond.methodLink own i y).before a0 Z = true) (w2 : (Cond.instanceMethod y).before a0 Z = true) (w3 : (Cond.initialized y.cls).before a0 Z = true) (w4 : (Cond.code y bytes maxL none).before a0 Z = true) (hM : Con l y bytes maxL none rm [] Z as' h n0 Q)
    (hy : y.cls ≠ "java/lang/invoke/MethodHandle" ∧ y.cls ≠ "java/lang/invoke/VarHandle") {ps : List FieldType} {r : Option FieldType} (hds : parseMethodDescriptor y.desc = some ⟨ps, r⟩) (argsL rest : List Value) (hlen : argsL.length = ps.length) (hst : st = argsL.reverse ++ .ref a :: rest) (has : (.ref a :: argsL).toArray = as') (hls : Ls.size = ml) (W : Nat) (hW : (rest.map fun v => v.category).sum ≤ W) (hfr : rm.frames + 1 ≤ R.frames) (hlo : W + (maxL + 11) + rm.locals ≤ R.locals) (hce : cells + rm.cells ≤ R.cells) (hsl : slots + rm.slots ≤ R.slots) (cells' slots' : Nat) (hc' : cells + rm.cells = cells') (hs' : slots + rm.slots = slots')
    (hd : decode bs pc = .ok (.invokespecial i, 3)) (pc' : Nat) (hp : pc + 3 = pc')
    (k : ∀ v T' h', Hr p l e R s m args below meth c Z own bs ml n0 rt T' h' cells' slots' → Q v h' → Wk p.tables e below G (T'.setTop (mkF m pc' Ls (v.toList ++ rest)))) : Wk p.tables e below G (T.setTop (mkF m pc Ls st)) := by
  subst hp hc' hs' hst has
  obtain ⟨⟨locs, Y, N⟩, hx, hc, hm, hZ, ho, hr, hl, eT⟩ := X
  obtain ⟨v, _, ⟨T1, L1, k1, n1⟩, -, Y1, ⟨Lc, hQ, l1, y1, z1⟩, q⟩ := Y.specialBack hx (y := y) hini ho (mvT hZ w1) (mvT hZ w2) (mvT hZ w4) hy (backOf (W := W) (Q := fun v h L => Q v h ∧ Fr n0 L) hM hZ w4 w3 hfr hlo) (g := mkF m pc Ls (argsL.reverse ++ .ref a :: rest)) rfl (by rw [hm]; exact hls) (Steps.refl _) (a := a) (argsL := argsL) (rest := rest) (lenOf hds hlen) rfl (by show 2 * 0 + _ ≤ _; omega) (hb hc hd) (fun _ _ => ⟨rfl, eT, hce, hsl⟩)
  dsimp only [Pt.U, Pt.locs, Pt.cells, Pt.slots] at Y1 l1 y1 z1 q hQ
  subst l1 y1 z1
  exact Wk.go (fun t z => q.trans z) (k v T1 T1.heap ⟨⟨_, Y1, Fr.app N hQ.2⟩, hx, hc, hm, hZ, ho, hr, hl, rfl⟩ hQ.1)
theorem Wk.callV (X : Hr p l e R s m args below meth c Z own bs ml n0 rt T h cells slots) {i : Nat} {y : MethodName} {C : String} {bytes : ByteArray} {maxL : Nat} {rt' : Option FieldType} {rm : Room} {as' : Array Value} {a : Addr} {Q : Option Value → Heap → Prop} (w1 : (Cond.methodLink own i y).before a0 Z = true) (wd : (Cond.declares y).before a0 Z = true) (ws : (Cond.selects C y y).before a0 Z = true) (w2 : (Cond.instanceMethod y).before a0 Z = true) (w3 : (Cond.initialized y.cls).before a0 Z = true) (w4 : (Cond.code y bytes maxL rt').before a0 Z = true) (E : Exa Z h a C) (hM : Con l y bytes maxL rt' rm [] Z as' h n0 Q)
    (hy : y.cls ≠ "java/lang/invoke/MethodHandle" ∧ y.cls ≠ "java/lang/invoke/VarHandle") {ps : List FieldType} {r : Option FieldType} (hds : parseMethodDescriptor y.desc = some ⟨ps, r⟩) (argsL rest : List Value) (hlen : argsL.length = ps.length) (hst : st = argsL.reverse ++ .ref a :: rest) (has : (.ref a :: argsL).toArray = as') (hls : Ls.size = ml) (W : Nat) (hW : (rest.map fun v => v.category).sum ≤ W) (hfr : rm.frames + 1 ≤ R.frames) (hlo : W + (maxL + 11) + rm.locals ≤ R.locals) (hce : cells + rm.cells ≤ R.cells) (hsl : slots + rm.slots ≤ R.slots) (cells' slots' : Nat) (hc' : cells + rm.cells = cells') (hs' : slots + rm.slots = slots')
    (hd : decode bs pc = .ok (.invokevirtual i, 3)) (pc' : Nat) (hp : pc + 3 = pc')
    (k : ∀ v T' h', Hr p l e R s m args below meth c Z own bs ml n0 rt T' h' cells' slots' → Q v h' → Wk p.tables e below G (T'.setTop (mkF m pc' Ls (v.toList ++ rest)))) : Wk p.tables e below G (T.setTop (mkF m pc Ls st)) := by
  subst hp hc' hs' hst has
  obtain ⟨⟨locs, Y, N⟩, hx, hc, hm, hZ, ho, hr, hl, eT⟩ := X
  obtain ⟨cq, kq, qa, qb, qc⟩ := isOf hZ eT E
  obtain ⟨v, _, ⟨T1, L1, k1, n1⟩, -, Y1, ⟨Lc, hQ, l1, y1, z1⟩, q⟩ := Y.virtualBack hx (y := y) (z := y) ho (mvT hZ w1) (mvT hZ wd) (notFace_of_selects (args := #[]) (mvT hZ ws)) (mvT hZ ws) (mvT hZ w2) hy (backOf (W := W) (Q := fun v h L => Q v h ∧ Fr n0 L) hM hZ w4 w3 hfr hlo) qa qc (g := mkF m pc Ls (argsL.reverse ++ .ref a :: rest)) rfl (by rw [hm]; exact hls) (Steps.refl _) (argsL := argsL) (rest := rest) (lenOf hds hlen) rfl (by show 2 * 0 + _ ≤ _; omega) (hb hc hd) (fun _ _ => ⟨rfl, eT, hce, hsl⟩)
  dsimp only [Pt.U, Pt.locs, Pt.cells, Pt.slots] at Y1 l1 y1 z1 q hQ
  subst l1 y1 z1
  exact Wk.go (fun t z => q.trans z) (k v T1 T1.heap ⟨⟨_, Y1, Fr.app N hQ.2⟩, hx, hc, hm, hZ, ho, hr, hl, rfl⟩ hQ.1)
theorem Hr.more (X : Hr p l e R s m args below meth c Z own bs ml n0 rt T h cells slots) {cells' slots' : Nat} (h1 : cells ≤ cells') (h2 : slots ≤ slots') : Hr p l e R s m args below meth c Z own bs ml n0 rt T h cells' slots' := by
  obtain ⟨⟨locs, Y, N⟩, r⟩ := X
  exact ⟨⟨locs, Y.more h1 h2, N⟩, r⟩
variable {Q : Option Value → Heap → Prop} {C N : Nat}
theorem Wk.ireturn (X : Hr p l e R s m args below meth c Z own bs ml n0 (some .int) T h cells slots) {z : Int32} (hd : decode bs pc = .ok (.ireturn, 1)) (hC : cells ≤ C) (hN : slots ≤ N) (q : Q (some (.int z)) h) : Wk p.tables e below (Gl s n0 Q C N) (T.setTop (mkF m pc Ls (.int z :: st))) := by
  obtain ⟨⟨locs, Y, F⟩, hx, hc, hm, hZ, ho, hr, hl, rfl⟩ := X
  obtain ⟨fs, hq, hrun, hended, hW, hsame⟩ := Y.leave (v := some (.int z)) (fun h => by rw [hr] at h; cases h) hl
  exact ⟨_, _, retOut Y hx hr rfl (Or.inl ⟨rfl, Or.inl rfl, _, rfl⟩) (hb hc hd) hq, hrun, hended, _, _, rfl, ⟨q, F⟩, ⟨_, rfl⟩, hW, hsame.mono hC hN⟩
theorem Wk.zreturn (X : Hr p l e R s m args below meth c Z own bs ml n0 (some .boolean) T h cells slots) {z : Int32} (hd : decode bs pc = .ok (.ireturn, 1)) (hC : cells ≤ C) (hN : slots ≤ N) (hz : z = 0 ∨ z = 1) (q : Q (some (.int z)) h) : Wk p.tables e below (Gl s n0 Q C N) (T.setTop (mkF m pc Ls (.int z :: st))) := by
  obtain ⟨⟨locs, Y, F⟩, hx, hc, hm, hZ, ho, hr, hl, rfl⟩ := X
  obtain ⟨fs, hq, hrun, hended, hW, hsame⟩ := Y.leave (v := some (.int z)) (fun h => by rw [hr] at h; cases h) hl
  exact ⟨_, _, retOut Y hx hr (by rcases hz with rfl | rfl <;> rfl) (Or.inl ⟨rfl, Or.inr (Or.inl rfl), _, rfl⟩) (hb hc hd) hq, hrun, hended, _, _, rfl, ⟨q, F⟩, ⟨_, rfl⟩, hW, hsame.mono hC hN⟩
theorem Wk.lreturn (X : Hr p l e R s m args below meth c Z own bs ml n0 (some .long) T h cells slots) {z : Int64} (hd : decode bs pc = .ok (.lreturn, 1)) (hC : cells ≤ C) (hN : slots ≤ N) (q : Q (some (.long z)) h) : Wk p.tables e below (Gl s n0 Q C N) (T.setTop (mkF m pc Ls (.long z :: st))) := by
  obtain ⟨⟨locs, Y, F⟩, hx, hc, hm, hZ, ho, hr, hl, rfl⟩ := X
  obtain ⟨fs, hq, hrun, hended, hW, hsame⟩ := Y.leave (v := some (.long z)) (fun h => by rw [hr] at h; cases h) hl
  exact ⟨_, _, retOut Y hx hr rfl (Or.inr (Or.inl ⟨rfl, rfl, _, rfl⟩)) (hb hc hd) hq, hrun, hended, _, _, rfl, ⟨q, F⟩, ⟨_, rfl⟩, hW, hsame.mono hC hN⟩
theorem Wk.areturn {ty : FieldType} (X : Hr p l e R s m args below meth c Z own bs ml n0 (some ty) T h cells slots) {v : Value} (hd : decode bs pc = .ok (.areturn, 1)) (hC : cells ≤ C) (hN : slots ≤ N) (ht : ty.isReference = true) (hn : narrow ty v = v) (hv : v.isRef = true) (q : Q (some v) h) : Wk p.tables e below (Gl s n0 Q C N) (T.setTop (mkF m pc Ls (v :: st))) := by
  obtain ⟨⟨locs, Y, F⟩, hx, hc, hm, hZ, ho, hr, hl, rfl⟩ := X
  obtain ⟨fs, hq, hrun, hended, hW, hsame⟩ := Y.leave (v := some v) (fun h => by rw [hr] at h; cases h) hl
  exact ⟨_, _, retOut Y hx hr hn (Or.inr (Or.inr (Or.inr (Or.inr ⟨rfl, ht, hv⟩)))) (hb hc hd) hq, hrun, hended, _, _, rfl, ⟨q, F⟩, ⟨_, rfl⟩, hW, hsame.mono hC hN⟩
theorem Wk.vreturn (X : Hr p l e R s m args below meth c Z own bs ml n0 none T h cells slots) (hd : decode bs pc = .ok (.return_, 1)) (hC : cells ≤ C) (hN : slots ≤ N) (q : Q none h) : Wk p.tables e below (Gl s n0 Q C N) (T.setTop (mkF m pc Ls [])) := by
  obtain ⟨⟨locs, Y, F⟩, hx, hc, hm, hZ, ho, hr, hl, rfl⟩ := X
  obtain ⟨fs, hq, hrun, hended, hW, hsame⟩ := Y.leave (v := none) (fun _ => rfl) hl
  exact ⟨_, _, Y.returnOut hx hr (hb hc hd) hq, hrun, hended, _, _, rfl, ⟨q, F⟩, ⟨_, rfl⟩, hW, hsame.mono hC hN⟩
end Layer
theorem nn_new {n0 a r n : Nat} (q : n0 ≤ a) (h : a < n) (g : r = n) : n0 ≤ r := by omega
theorem ne_new {a r n : Nat} (h : a < n) (g : r = n) : a ≠ r := by omega
section Layer4
variable {p : Program} {l : Launch} {e : Env} {R : Room} {s : State} {m : MethodId} {args : Array Value} {below : List Frame} {meth : Method} {c : Code} {Z : State} {own : String} {bs : ByteArray} {ml n0 : Nat} {rt : Option FieldType} {T : State} {h h' : Heap} {cells slots : Nat} {G : State → Outcome → Prop} {pc : Nat} {Ls : Array Slot} {st : List Value} {a0 : Array Value} {a b : Addr}
/-- a cell that the VM knows -/
def Kn (h : Heap) (a : Addr) : Prop := ∃ cell : Cell, h[a]? = some cell ∧ cell.vm ≠ .unknown
theorem Kn.of {O n d : String} {v : Value} (F : Fld Z h a O n d v) : Kn h a := by
  obtain ⟨cell, _, _, _, _, h1, -, -, h4, -⟩ := F; exact ⟨cell, h1, h4⟩
theorem Kn.ext (N : Kn h a) (E : Ext h h') : Kn h' a := by
  obtain ⟨cell, h1, h2⟩ := N; exact ⟨cell, E.2 _ _ h1, h2⟩
theorem Kn.keep {ws : List Addr} (N : Kn h a) (K : Keep h h' ws) : Kn h' a := by
  obtain ⟨cell, h1, h2⟩ := N
  obtain ⟨c', q1, -, q3, -⟩ := K.2.2 a cell h1
  exact ⟨c', q1, by rw [q3]; exact h2⟩
theorem Kn.wr {sl : Nat} {v : Value} (N : Kn h a) (W : Wr h h' b sl v) : Kn h' a := N.keep (Keep.of_wr W)
theorem Wk.putF (X : Hr p l e R s m args below meth c Z own bs ml n0 rt T h cells slots) {i kk : Nat} {R0 O n d C : String} {ty : FieldType} {v : Value} (w : (Cond.fieldLink own i R0 n d).before a0 Z = true) (via : Via Z R0 O n d) (E : Exa Z h a C) (N : Kn h a) (L : (Cond.lays C O n d).before a0 Z = true ∨ ((Cond.laysFinal C O n d).before a0 Z = true ∧ own = O ∧ meth.name = "<init>")) (wi : (Cond.instantiable C kk).before a0 Z = true)
    (hty : parseFieldDescriptor d = some ty) (hn : narrow ty v = v) (hf : fits ty v = true) (hnew : n0 ≤ a) (hd : decode bs pc = .ok (.putfield i, 3)) (pc' : Nat) (hp : pc + 3 = pc')
    (k : ∀ T' h', Hr p l e R s m args below meth c Z own bs ml n0 rt T' h' cells slots → Wr h h' a (Jvm.RoadKit.slotOf Z O n d) v → Fld Z h' a O n d v → Wk p.tables e below G (T'.setTop (mkF m pc' Ls st))) : Wk p.tables e below G (T.setTop (mkF m pc Ls (v :: .ref a :: st))) := by
  obtain ⟨old, F⟩ := fld_laid (a0 := a0) E N wi (O := O) (n := n) (d := d) (L.imp id (·.1))
  exact Wk.putfield X w via F E L wi hty hn hf hnew hd pc' hp (fun T' h' X' W => k T' h' X' W (F.same W))
theorem Wk.castY (X : Hr p l e R s m args below meth c Z own bs ml n0 rt T h cells slots) {i : Nat} {K : String} (w : (Cond.classLink own i K).before a0 Z = true) (F : Ins Z h a K true) (hd : decode bs pc = .ok (.checkcast i, 3)) (pc' : Nat) (hp : pc + 3 = pc')
    (k : ∀ T', Hr p l e R s m args below meth c Z own bs ml n0 rt T' h cells slots → Wk p.tables e below G (T'.setTop (mkF m pc' Ls (.ref a :: st)))) : Wk p.tables e below G (T.setTop (mkF m pc Ls (.ref a :: st))) := by
  subst hp
  obtain ⟨⟨locs, Y, N⟩, hx, hc, hm, hZ, ho, hr, hl, eT⟩ := X
  obtain ⟨T', Y', e', q⟩ := Jvm.RoadKit.castY Y hx hZ ho w eT F (g := mkF m pc Ls (.ref a :: st)) rfl rfl (hb hc hd)
  exact Wk.go q (k T' ⟨⟨locs, Y', N⟩, hx, hc, hm, hZ, ho, hr, hl, e'⟩)
theorem Wk.instY (X : Hr p l e R s m args below meth c Z own bs ml n0 rt T h cells slots) {i : Nat} {K : String} (w : (Cond.classLink own i K).before a0 Z = true) (F : Ins Z h a K true) (hd : decode bs pc = .ok (.instanceof i, 3)) (pc' : Nat) (hp : pc + 3 = pc')
    (k : ∀ T', Hr p l e R s m args below meth c Z own bs ml n0 rt T' h cells slots → Wk p.tables e below G (T'.setTop (mkF m pc' Ls (.int 1 :: st)))) : Wk p.tables e below G (T.setTop (mkF m pc Ls (.ref a :: st))) := by
  subst hp
  obtain ⟨⟨locs, Y, N⟩, hx, hc, hm, hZ, ho, hr, hl, eT⟩ := X
  obtain ⟨T', Y', e', q⟩ := Jvm.RoadKit.instY Y hx hZ ho w eT F (g := mkF m pc Ls (.ref a :: st)) rfl rfl (hb hc hd)
  exact Wk.go q (k T' ⟨⟨locs, Y', N⟩, hx, hc, hm, hZ, ho, hr, hl, e'⟩)
/-- a private method's call, by its contract: that its class is no interface comes of another method's 'selects' word -/
theorem Wk.callP (X : Hr p l e R s m args below meth c Z own bs ml n0 rt T h cells slots) {i : Nat} {y z : MethodName} {C : String} {bytes : ByteArray} {maxL : Nat} {rt' : Option FieldType} {rm : Room} {as' : Array Value} {Q : Option Value → Heap → Prop} (w1 : (Cond.methodLink own i y).before a0 Z = true) (wp : (Cond.privateMethod y).before a0 Z = true) (w2 : (Cond.instanceMethod y).before a0 Z = true) (w3 : (Cond.initialized y.cls).before a0 Z = true) (w4 : (Cond.code y bytes maxL rt').before a0 Z = true) (ws : (Cond.selects C z z).before a0 Z = true) (hz : z.cls = y.cls) (E : Exa Z h a C) (hM : Con l y bytes maxL rt' rm [] Z as' h n0 Q)
    (hy : y.cls ≠ "java/lang/invoke/MethodHandle" ∧ y.cls ≠ "java/lang/invoke/VarHandle") {ps : List FieldType} {r : Option FieldType} (hds : parseMethodDescriptor y.desc = some ⟨ps, r⟩) (argsL rest : List Value) (hlen : argsL.length = ps.length) (hst : st = argsL.reverse ++ .ref a :: rest) (has : (.ref a :: argsL).toArray = as') (hls : Ls.size = ml) (W : Nat) (hW : (rest.map fun v => v.category).sum ≤ W) (hfr : rm.frames + 1 ≤ R.frames) (hlo : W + (maxL + 11) + rm.locals ≤ R.locals) (hce : cells + rm.cells ≤ R.cells) (hsl : slots + rm.slots ≤ R.slots) (cells' slots' : Nat) (hc' : cells + rm.cells = cells') (hs' : slots + rm.slots = slots')
    (hd : decode bs pc = .ok (.invokevirtual i, 3)) (pc' : Nat) (hp : pc + 3 = pc')
    (k : ∀ v T' h', Hr p l e R s m args below meth c Z own bs ml n0 rt T' h' cells' slots' → Q v h' → Wk p.tables e below G (T'.setTop (mkF m pc' Ls (v.toList ++ rest)))) : Wk p.tables e below G (T.setTop (mkF m pc Ls st)) := by
  subst hp hc' hs' hst has
  obtain ⟨⟨locs, Y, N⟩, hx, hc, hm, hZ, ho, hr, hl, eT⟩ := X
  obtain ⟨cell, hcell, hobj⟩ := E.cell
  obtain ⟨mk, methM, hnamed, hmethM, hstM, habM⟩ := Cond.instanceMethod_spec (mv (args := args) hZ w2)
  obtain ⟨methM', cM, hmethM', -, -, -, -, -, -, hsigM⟩ := Cond.code_spec hnamed (mv (args := args) hZ w4)
  cases hmethM.symm.trans hmethM'
  obtain ⟨c2, r2, m2, q1, q2, q3, q4, kP, hkP, hkPi⟩ := Cond.selects_spec (mv (args := args) hZ ws)
  have hcls : m2.cls = mk.cls := by
    have a1 := findClass_of_methodNamed q3
    have a2 := findClass_of_methodNamed hnamed
    rw [hz] at a1
    exact Option.some.inj (a1.symm.trans a2)
  rw [hcls] at hkP
  have hpriv := Cond.privateMethod_at (mvP hZ wp (args := args))
  have hselP : selectMethod e.platform s.vm cell.cls mk = .method mk := selectMethod_private hmethM (hpriv mk methM hnamed hmethM)
  obtain ⟨vm₁, X₁, hstep₁⟩ := Y.invokevirtual hx ho (mv (args := args) hZ w1) hnamed hmethM hstM hkP hkPi hy (a := a) (cell := cell) (by rw [eT]; exact hcell) hobj hselP hmethM habM hkP hkPi (g := mkF m pc Ls (argsL.reverse ++ .ref a :: rest)) rfl (argsL := argsL) (rest := rest) (lenOf hds hlen _ hsigM) rfl (hb hc hd)
  have hW₁ : s.WarmedH vm₁ := X₁.warmed
  have hK := backOf (len := 3) (W := W) (Q := fun v h L => Q v h ∧ Fr n0 L) (below := below) (s := s) (args := args) (p := p) (e := e) hM hZ w4 w3 hfr hlo
  obtain ⟨v, ⟨T1, L1, k1, n1⟩, Y1, ⟨Lc, hQ, l1, y1, z1⟩, hsteps⟩ := hK m meth c ⟨T.setVm vm₁, locs, cells, slots⟩ (mkF m pc Ls rest) (.invokevirtual i) mk (.ref a :: argsL).toArray X₁ rfl (by rw [hm]; exact hls) (hb hc hd) (by show 2 * 0 + (rest.map fun v => v.category).sum ≤ W; omega) (X₁.named hnamed) ⟨rfl, eT, hce, hsl⟩
  dsimp only [Pt.U, Pt.locs, Pt.cells, Pt.slots] at Y1 l1 y1 z1 hQ hsteps
  subst l1 y1 z1
  refine Wk.go (fun t z => ?_) (k v T1 T1.heap ⟨⟨_, Y1, Fr.app N hQ.2⟩, hx, hc, hm, hZ, ho, hr, hl, rfl⟩ hQ.1)
  exact hstep₁ _ fun acts => by rw [doInvoke_state]; exact hsteps.trans z
/-- the int on top, written otherwise -/
theorem Wk.topI {x : Int32} (z : Int32) (q : x = z) (k : Wk p.tables e below G (T.setTop (mkF m pc Ls (.int z :: st)))) : Wk p.tables e below G (T.setTop (mkF m pc Ls (.int x :: st))) := by
  subst q; exact k
/-- roads that meet with an int of any worth -/
theorem Wk.joinI {a : State} (b : Int32 → State) (k2 : ∀ q, Wk p.tables e below G (b q)) (k1 : (∀ q, Wk p.tables e below G (b q)) → Wk p.tables e below G a) : Wk p.tables e below G a := k1 k2
theorem Wk.dup2 (X : Hr p l e R s m args below meth c Z own bs ml n0 rt T h cells slots) {v w : Value} (hd : decode bs pc = .ok (.dup2, 1)) (pc' : Nat) (hp : pc + 1 = pc') (hv : v.category = 1) (hw : w.category = 1) (k : Wk p.tables e below G (T.setTop (mkF m pc' Ls (v :: w :: v :: w :: st)))) : Wk p.tables e below G (T.setTop (mkF m pc Ls (v :: w :: st))) := by
  subst hp
  exact Wk.pu X (fun hA hx hc t q => Jvm.Free.XT.dup2 hA hx rfl (hb hc hd) rfl hv hw q) k
theorem Wk.nreturn {ty : FieldType} (X : Hr p l e R s m args below meth c Z own bs ml n0 (some ty) T h cells slots) {Q : Option Value → Heap → Prop} {C N : Nat} {z : Int32} (ht : ty = .int ∨ ty = .boolean ∨ ty = .byte ∨ ty = .char ∨ ty = .short) (hd : decode bs pc = .ok (.ireturn, 1)) (hC : cells ≤ C) (hN : slots ≤ N) (hz : narrow ty (.int z) = .int z) (q : Q (some (.int z)) h) : Wk p.tables e below (Gl s n0 Q C N) (T.setTop (mkF m pc Ls (.int z :: st))) := by
  obtain ⟨⟨locs, Y, F⟩, hx, hc, hm, hZ, ho, hr, hl, rfl⟩ := X
  obtain ⟨fs, hq, hrun, hended, hW, hsame⟩ := Y.leave (v := some (.int z)) (fun h => by rw [hr] at h; cases h) hl
  exact ⟨_, _, retOut Y hx hr hz (Or.inl ⟨rfl, ht, _, rfl⟩) (hb hc hd) hq, hrun, hended, _, _, rfl, ⟨q, F⟩, ⟨_, rfl⟩, hW, hsame.mono hC hN⟩
end Layer4
theorem t0 {a0 : Array Value} {Z : State} (hw : ∀ d ∈ tables_1, d.before a0 Z = true) : Jvm.Cond.before (Jvm.Cond.constant "com/example/garblescore/garblescore/language/CharacterCountsChildPinLaw" (7 : Nat) (2097151 : Int32)) a0 Z = true := hw _ (List.mem_of_getElem? (i := 0) rfl)
theorem t1 {a0 : Array Value} {Z : State} (hw : ∀ d ∈ tables_1, d.before a0 Z = true) : Jvm.Cond.before (Jvm.Cond.constant "com/example/garblescore/garblescore/language/CharacterCountsChildPinLaw" (8 : Nat) (65535 : Int32)) a0 Z = true := hw _ (List.mem_of_getElem? (i := 1) rfl)
theorem t2 {a0 : Array Value} {Z : State} (hw : ∀ d ∈ tables_1, d.before a0 Z = true) : Jvm.Cond.before (Jvm.Cond.arrayClass Jvm.ClassFile.FieldType.int) a0 Z = true := hw _ (List.mem_of_getElem? (i := 2) rfl)
theorem t3 {a0 : Array Value} {Z : State} (hw : ∀ d ∈ tables_1, d.before a0 Z = true) : Jvm.Cond.before (Jvm.Cond.constant "com/example/garblescore/garblescore/language/CharacterCountsChildPinLaw" (11 : Nat) (1114112 : Int32)) a0 Z = true := hw _ (List.mem_of_getElem? (i := 3) rfl)
theorem t4 {a0 : Array Value} {Z : State} (hw : ∀ d ∈ tables_1, d.before a0 Z = true) : Jvm.Cond.before (Jvm.Cond.arrayClass Jvm.ClassFile.FieldType.long) a0 Z = true := hw _ (List.mem_of_getElem? (i := 4) rfl)
theorem t5 {a0 : Array Value} {Z : State} (hw : ∀ d ∈ tables_1, d.before a0 Z = true) : Jvm.Cond.before (Jvm.Cond.classLink "com/example/garblescore/garblescore/language/CharacterCountsChildPinLaw" (9 : Nat) "com/example/garblescore/garblescore/language/CharacterCounts") a0 Z = true := hw _ (List.mem_of_getElem? (i := 5) rfl)
theorem t6 {a0 : Array Value} {Z : State} (hw : ∀ d ∈ tables_1, d.before a0 Z = true) : Jvm.Cond.before (Jvm.Cond.instantiable "com/example/garblescore/garblescore/language/CharacterCounts" (6 : Nat)) a0 Z = true := hw _ (List.mem_of_getElem? (i := 6) rfl)
theorem t7 {a0 : Array Value} {Z : State} (hw : ∀ d ∈ tables_1, d.before a0 Z = true) : Jvm.Cond.before (Jvm.Cond.initialized "com/example/garblescore/garblescore/language/CharacterCounts") a0 Z = true := hw _ (List.mem_of_getElem? (i := 7) rfl)
theorem t8 {a0 : Array Value} {Z : State} (hw : ∀ d ∈ tables_1, d.before a0 Z = true) : Jvm.Cond.before (Jvm.Cond.methodLink "com/example/garblescore/garblescore/language/CharacterCountsChildPinLaw" (12 : Nat) ({ cls := "com/example/garblescore/garblescore/language/CharacterCounts", name := "<init>", desc := "(I[I[J[I)V" } : Jvm.MethodName)) a0 Z = true := hw _ (List.mem_of_getElem? (i := 8) rfl)
theorem t9 {a0 : Array Value} {Z : State} (hw : ∀ d ∈ tables_1, d.before a0 Z = true) : Jvm.Cond.before (Jvm.Cond.instanceMethod ({ cls := "com/example/garblescore/garblescore/language/CharacterCounts", name := "<init>", desc := "(I[I[J[I)V" } : Jvm.MethodName)) a0 Z = true := hw _ (List.mem_of_getElem? (i := 9) rfl)
theorem t10 {a0 : Array Value} {Z : State} (hw : ∀ d ∈ tables_1, d.before a0 Z = true) : Jvm.Cond.before (Jvm.Cond.code ({ cls := "com/example/garblescore/garblescore/language/CharacterCounts", name := "<init>", desc := "(I[I[J[I)V" } : Jvm.MethodName) prog_108_method_1_code (8 : Nat) (Option.none : Option Jvm.ClassFile.FieldType)) a0 Z = true := hw _ (List.mem_of_getElem? (i := 10) rfl)
theorem t11 {a0 : Array Value} {Z : State} (hw : ∀ d ∈ tables_1, d.before a0 Z = true) : Jvm.Cond.before (Jvm.Cond.methodLink "com/example/garblescore/garblescore/language/CharacterCounts" (3 : Nat) ({ cls := "java/lang/Object", name := "<init>", desc := "()V" } : Jvm.MethodName)) a0 Z = true := hw _ (List.mem_of_getElem? (i := 11) rfl)
theorem t12 {a0 : Array Value} {Z : State} (hw : ∀ d ∈ tables_1, d.before a0 Z = true) : Jvm.Cond.before (Jvm.Cond.instanceMethod ({ cls := "java/lang/Object", name := "<init>", desc := "()V" } : Jvm.MethodName)) a0 Z = true := hw _ (List.mem_of_getElem? (i := 12) rfl)
theorem t13 {a0 : Array Value} {Z : State} (hw : ∀ d ∈ tables_1, d.before a0 Z = true) : Jvm.Cond.before (Jvm.Cond.code ({ cls := "java/lang/Object", name := "<init>", desc := "()V" } : Jvm.MethodName) object_method_1_code (1 : Nat) (Option.none : Option Jvm.ClassFile.FieldType)) a0 Z = true := hw _ (List.mem_of_getElem? (i := 13) rfl)
theorem t14 {a0 : Array Value} {Z : State} (hw : ∀ d ∈ tables_1, d.before a0 Z = true) : Jvm.Cond.before (Jvm.Cond.fieldLink "com/example/garblescore/garblescore/language/CharacterCounts" (9 : Nat) "com/example/garblescore/garblescore/language/CharacterCounts" "order" "I") a0 Z = true := hw _ (List.mem_of_getElem? (i := 14) rfl)
theorem t15 {a0 : Array Value} {Z : State} (hw : ∀ d ∈ tables_1, d.before a0 Z = true) : Jvm.Cond.before (Jvm.Cond.laysFinal "com/example/garblescore/garblescore/language/CharacterCounts" "com/example/garblescore/garblescore/language/CharacterCounts" "order" "I") a0 Z = true := hw _ (List.mem_of_getElem? (i := 15) rfl)
theorem t16 {a0 : Array Value} {Z : State} (hw : ∀ d ∈ tables_1, d.before a0 Z = true) : Jvm.Cond.before (Jvm.Cond.fieldLink "com/example/garblescore/garblescore/language/CharacterCounts" (15 : Nat) "com/example/garblescore/garblescore/language/CharacterCounts" "codePoints" "[I") a0 Z = true := hw _ (List.mem_of_getElem? (i := 16) rfl)
theorem t17 {a0 : Array Value} {Z : State} (hw : ∀ d ∈ tables_1, d.before a0 Z = true) : Jvm.Cond.before (Jvm.Cond.laysFinal "com/example/garblescore/garblescore/language/CharacterCounts" "com/example/garblescore/garblescore/language/CharacterCounts" "codePoints" "[I") a0 Z = true := hw _ (List.mem_of_getElem? (i := 17) rfl)
theorem t18 {a0 : Array Value} {Z : State} (hw : ∀ d ∈ tables_1, d.before a0 Z = true) : Jvm.Cond.before (Jvm.Cond.fieldLink "com/example/garblescore/garblescore/language/CharacterCounts" (19 : Nat) "com/example/garblescore/garblescore/language/CharacterCounts" "counts" "[J") a0 Z = true := hw _ (List.mem_of_getElem? (i := 18) rfl)
theorem t19 {a0 : Array Value} {Z : State} (hw : ∀ d ∈ tables_1, d.before a0 Z = true) : Jvm.Cond.before (Jvm.Cond.laysFinal "com/example/garblescore/garblescore/language/CharacterCounts" "com/example/garblescore/garblescore/language/CharacterCounts" "counts" "[J") a0 Z = true := hw _ (List.mem_of_getElem? (i := 19) rfl)
theorem t20 {a0 : Array Value} {Z : State} (hw : ∀ d ∈ tables_1, d.before a0 Z = true) : Jvm.Cond.before (Jvm.Cond.fieldLink "com/example/garblescore/garblescore/language/CharacterCounts" (23 : Nat) "com/example/garblescore/garblescore/language/CharacterCounts" "firstChildren" "[I") a0 Z = true := hw _ (List.mem_of_getElem? (i := 20) rfl)
theorem t21 {a0 : Array Value} {Z : State} (hw : ∀ d ∈ tables_1, d.before a0 Z = true) : Jvm.Cond.before (Jvm.Cond.laysFinal "com/example/garblescore/garblescore/language/CharacterCounts" "com/example/garblescore/garblescore/language/CharacterCounts" "firstChildren" "[I") a0 Z = true := hw _ (List.mem_of_getElem? (i := 21) rfl)
theorem t22 {a0 : Array Value} {Z : State} (hw : ∀ d ∈ tables_1, d.before a0 Z = true) : Jvm.Cond.before (Jvm.Cond.fieldLink "com/example/garblescore/garblescore/language/CharacterCounts" (26 : Nat) "com/example/garblescore/garblescore/language/CharacterCounts" "totals" "[J") a0 Z = true := hw _ (List.mem_of_getElem? (i := 22) rfl)
theorem t23 {a0 : Array Value} {Z : State} (hw : ∀ d ∈ tables_1, d.before a0 Z = true) : Jvm.Cond.before (Jvm.Cond.laysFinal "com/example/garblescore/garblescore/language/CharacterCounts" "com/example/garblescore/garblescore/language/CharacterCounts" "totals" "[J") a0 Z = true := hw _ (List.mem_of_getElem? (i := 23) rfl)
theorem t24 {a0 : Array Value} {Z : State} (hw : ∀ d ∈ tables_1, d.before a0 Z = true) : Jvm.Cond.before (Jvm.Cond.fieldLink "com/example/garblescore/garblescore/language/CharacterCounts" (29 : Nat) "com/example/garblescore/garblescore/language/CharacterCounts" "types" "[I") a0 Z = true := hw _ (List.mem_of_getElem? (i := 24) rfl)
theorem t25 {a0 : Array Value} {Z : State} (hw : ∀ d ∈ tables_1, d.before a0 Z = true) : Jvm.Cond.before (Jvm.Cond.laysFinal "com/example/garblescore/garblescore/language/CharacterCounts" "com/example/garblescore/garblescore/language/CharacterCounts" "types" "[I") a0 Z = true := hw _ (List.mem_of_getElem? (i := 25) rfl)
theorem t26 {a0 : Array Value} {Z : State} (hw : ∀ d ∈ tables_1, d.before a0 Z = true) : Jvm.Cond.before (Jvm.Cond.methodLink "com/example/garblescore/garblescore/language/CharacterCountsChildPinLaw" (15 : Nat) ({ cls := "com/example/garblescore/garblescore/language/CharacterCounts", name := "child", desc := "(II)I" } : Jvm.MethodName)) a0 Z = true := hw _ (List.mem_of_getElem? (i := 26) rfl)
theorem t27 {a0 : Array Value} {Z : State} (hw : ∀ d ∈ tables_1, d.before a0 Z = true) : Jvm.Cond.before (Jvm.Cond.declares ({ cls := "com/example/garblescore/garblescore/language/CharacterCounts", name := "child", desc := "(II)I" } : Jvm.MethodName)) a0 Z = true := hw _ (List.mem_of_getElem? (i := 27) rfl)
theorem t28 {a0 : Array Value} {Z : State} (hw : ∀ d ∈ tables_1, d.before a0 Z = true) : Jvm.Cond.before (Jvm.Cond.instanceMethod ({ cls := "com/example/garblescore/garblescore/language/CharacterCounts", name := "child", desc := "(II)I" } : Jvm.MethodName)) a0 Z = true := hw _ (List.mem_of_getElem? (i := 28) rfl)
theorem t29 {a0 : Array Value} {Z : State} (hw : ∀ d ∈ tables_1, d.before a0 Z = true) : Jvm.Cond.before (Jvm.Cond.selects "com/example/garblescore/garblescore/language/CharacterCounts" ({ cls := "com/example/garblescore/garblescore/language/CharacterCounts", name := "child", desc := "(II)I" } : Jvm.MethodName) ({ cls := "com/example/garblescore/garblescore/language/CharacterCounts", name := "child", desc := "(II)I" } : Jvm.MethodName)) a0 Z = true := hw _ (List.mem_of_getElem? (i := 29) rfl)
theorem t30 {a0 : Array Value} {Z : State} (hw : ∀ d ∈ tables_1, d.before a0 Z = true) : Jvm.Cond.before (Jvm.Cond.code ({ cls := "com/example/garblescore/garblescore/language/CharacterCounts", name := "child", desc := "(II)I" } : Jvm.MethodName) prog_108_method_4_code (7 : Nat) (Option.some Jvm.ClassFile.FieldType.int)) a0 Z = true := hw _ (List.mem_of_getElem? (i := 30) rfl)
theorem pd0 : parseMethodDescriptor "(I[I[J[I)V" = some ⟨[.int, (.array .int), (.array .long), (.array .int)], none⟩ := by decide +kernel
theorem pd1 : parseMethodDescriptor "(II)I" = some ⟨[.int, .int], some .int⟩ := by decide +kernel
theorem pn0 : plainName "com/example/garblescore/garblescore/language/CharacterCounts" = true := by first | (simp [plainName, overriddenIn]; done) | decide +kernel
theorem pn1 : plainName "com/example/garblescore/garblescore/language/CharacterCountsChildPinLaw" = true := by first | (simp [plainName, overriddenIn]; done) | decide +kernel
/-! the plain law: which of three rising values in a range is q -/
def resR (l u : Nat) (c1 c2 c3 q : Int32) : Int32 := if l ≤ 3 ∧ 3 < u ∧ c3 = q then 3 else if l ≤ 2 ∧ 2 < u ∧ c2 = q then 2 else if l ≤ 1 ∧ 1 < u ∧ c1 = q then 1 else -1
def exF (k lo hi v q e : Int32) : Int32 := if ¬ k < lo ∧ k < hi ∧ v = q then k else e
/-- the ranges that occur -/
def Rng (lo hi : Int32) (l u : Nat) : Prop := (lo = 1 ∧ hi = 1 ∧ l = 1 ∧ u = 1) ∨ (lo = 1 ∧ hi = 2 ∧ l = 1 ∧ u = 2) ∨ (lo = 1 ∧ hi = 3 ∧ l = 1 ∧ u = 3) ∨ (lo = 1 ∧ hi = 4 ∧ l = 1 ∧ u = 4) ∨ (lo = 2 ∧ hi = 4 ∧ l = 2 ∧ u = 4) ∨ (lo = 3 ∧ hi = 4 ∧ l = 3 ∧ u = 4) ∨ (lo = 4 ∧ hi = 4 ∧ l = 4 ∧ u = 4)
theorem own_exp {lo hi : Int32} {l u : Nat} (c1 c2 c3 q : Int32) (h : Rng lo hi l u) : resR l u c1 c2 c3 q = exF 3 lo hi c3 q (exF 2 lo hi c2 q (exF 1 lo hi c1 q (-1))) := by
  rcases h with ⟨rfl, rfl, rfl, rfl⟩ | ⟨rfl, rfl, rfl, rfl⟩ | ⟨rfl, rfl, rfl, rfl⟩ | ⟨rfl, rfl, rfl, rfl⟩ | ⟨rfl, rfl, rfl, rfl⟩ | ⟨rfl, rfl, rfl, rfl⟩ | ⟨rfl, rfl, rfl, rfl⟩ <;> simp [resR, exF]
theorem own_and3 (x : Int32) : (x &&& (3 : Int32)) = 0 ∨ (x &&& (3 : Int32)) = 1 ∨ (x &&& (3 : Int32)) = 2 ∨ (x &&& (3 : Int32)) = 3 := by
  have e := c_mask x 3 2 (by decide) (by decide)
  simp only [← Int32.toInt_inj, e, Int32.reduceToInt]
  omega
theorem own_rise (x a b : Int32) : let c1 := x &&& (2097151 : Int32); let c2 := (c1 + (1 : Int32)) + (a &&& (65535 : Int32)); c1 < c2 ∧ c2 < ((c2 + (1 : Int32)) + (b &&& (65535 : Int32))) := by
  intro c1 c2
  have e1 : c1.toInt = x.toInt % 2097152 := c_mask x 2097151 21 (by decide) (by decide)
  have e2 : (a &&& (65535 : Int32)).toInt = a.toInt % 65536 := c_mask a 65535 16 (by decide) (by decide)
  have e3 : (b &&& (65535 : Int32)).toInt = b.toInt % 65536 := c_mask b 65535 16 (by decide) (by decide)
  have a1 := c_iadd c1 1
  have a2 := c_iadd (c1 + 1) (a &&& (65535 : Int32))
  have a3 := c_iadd c2 1
  have a4 := c_iadd (c2 + 1) (b &&& (65535 : Int32))
  have r1 := rng32 (c1 + 1)
  have r2 := rng32 c2
  have r3 := rng32 (c2 + 1)
  have r4 := rng32 ((c2 + 1) + (b &&& (65535 : Int32)))
  change (c2.toInt - _) % _ = 0 at a2
  simp only [Int32.reduceToInt] at a1 a3
  simp only [Int32.lt_iff_toInt_lt]
  omega
theorem d1_0 : decode prog_108_method_1_code 0 = .ok (.aload_n 0, 1) := by decide +kernel
theorem d1_1 : decode prog_108_method_1_code 1 = .ok (.invokespecial 3, 3) := by decide +kernel
theorem d1_4 : decode prog_108_method_1_code 4 = .ok (.aload_n 0, 1) := by decide +kernel
theorem d1_5 : decode prog_108_method_1_code 5 = .ok (.iload_n 1, 1) := by decide +kernel
theorem d1_6 : decode prog_108_method_1_code 6 = .ok (.putfield 9, 3) := by decide +kernel
theorem d1_9 : decode prog_108_method_1_code 9 = .ok (.aload_n 0, 1) := by decide +kernel
theorem d1_10 : decode prog_108_method_1_code 10 = .ok (.aload_n 2, 1) := by decide +kernel
theorem d1_11 : decode prog_108_method_1_code 11 = .ok (.putfield 15, 3) := by decide +kernel
theorem d1_14 : decode prog_108_method_1_code 14 = .ok (.aload_n 0, 1) := by decide +kernel
theorem d1_15 : decode prog_108_method_1_code 15 = .ok (.aload_n 3, 1) := by decide +kernel
theorem d1_16 : decode prog_108_method_1_code 16 = .ok (.putfield 19, 3) := by decide +kernel
theorem d1_19 : decode prog_108_method_1_code 19 = .ok (.aload_n 0, 1) := by decide +kernel
theorem d1_20 : decode prog_108_method_1_code 20 = .ok (.aload 4, 2) := by decide +kernel
theorem d1_22 : decode prog_108_method_1_code 22 = .ok (.putfield 23, 3) := by decide +kernel
theorem d1_25 : decode prog_108_method_1_code 25 = .ok (.aload_n 2, 1) := by decide +kernel
theorem d1_26 : decode prog_108_method_1_code 26 = .ok (.arraylength, 1) := by decide +kernel
theorem d1_27 : decode prog_108_method_1_code 27 = .ok (.istore 5, 2) := by decide +kernel
theorem d1_29 : decode prog_108_method_1_code 29 = .ok (.aload_n 0, 1) := by decide +kernel
theorem d1_30 : decode prog_108_method_1_code 30 = .ok (.iload 5, 2) := by decide +kernel
theorem d1_32 : decode prog_108_method_1_code 32 = .ok (.newarray .long, 2) := by decide +kernel
theorem d1_34 : decode prog_108_method_1_code 34 = .ok (.putfield 26, 3) := by decide +kernel
theorem d1_37 : decode prog_108_method_1_code 37 = .ok (.aload_n 0, 1) := by decide +kernel
theorem d1_38 : decode prog_108_method_1_code 38 = .ok (.iload 5, 2) := by decide +kernel
theorem d1_40 : decode prog_108_method_1_code 40 = .ok (.newarray .int, 2) := by decide +kernel
theorem d1_42 : decode prog_108_method_1_code 42 = .ok (.putfield 29, 3) := by decide +kernel
theorem d1_45 : decode prog_108_method_1_code 45 = .ok (.iconst 0, 1) := by decide +kernel
theorem d1_46 : decode prog_108_method_1_code 46 = .ok (.istore 6, 2) := by decide +kernel
theorem d1_48 : decode prog_108_method_1_code 48 = .ok (.iload 6, 2) := by decide +kernel
theorem d1_50 : decode prog_108_method_1_code 50 = .ok (.iload 5, 2) := by decide +kernel
theorem d1_52 : decode prog_108_method_1_code 52 = .ok (.if_icmp .ge 68, 3) := by decide +kernel
theorem d1_55 : decode prog_108_method_1_code 55 = .ok (.aload 4, 2) := by decide +kernel
theorem d1_57 : decode prog_108_method_1_code 57 = .ok (.iload 6, 2) := by decide +kernel
theorem d1_59 : decode prog_108_method_1_code 59 = .ok (.iaload, 1) := by decide +kernel
theorem d1_60 : decode prog_108_method_1_code 60 = .ok (.istore 7, 2) := by decide +kernel
theorem d1_62 : decode prog_108_method_1_code 62 = .ok (.iload 7, 2) := by decide +kernel
theorem d1_64 : decode prog_108_method_1_code 64 = .ok (.aload 4, 2) := by decide +kernel
theorem d1_66 : decode prog_108_method_1_code 66 = .ok (.iload 6, 2) := by decide +kernel
theorem d1_68 : decode prog_108_method_1_code 68 = .ok (.iconst 1, 1) := by decide +kernel
theorem d1_69 : decode prog_108_method_1_code 69 = .ok (.iadd, 1) := by decide +kernel
theorem d1_70 : decode prog_108_method_1_code 70 = .ok (.iaload, 1) := by decide +kernel
theorem d1_71 : decode prog_108_method_1_code 71 = .ok (.if_icmp .ge 43, 3) := by decide +kernel
theorem d1_74 : decode prog_108_method_1_code 74 = .ok (.aload_n 0, 1) := by decide +kernel
theorem d1_75 : decode prog_108_method_1_code 75 = .ok (.getfield 26, 3) := by decide +kernel
theorem d1_78 : decode prog_108_method_1_code 78 = .ok (.iload 6, 2) := by decide +kernel
theorem d1_80 : decode prog_108_method_1_code 80 = .ok (.dup2, 1) := by decide +kernel
theorem d1_81 : decode prog_108_method_1_code 81 = .ok (.laload, 1) := by decide +kernel
theorem d1_82 : decode prog_108_method_1_code 82 = .ok (.aload_n 3, 1) := by decide +kernel
theorem d1_83 : decode prog_108_method_1_code 83 = .ok (.iload 7, 2) := by decide +kernel
theorem d1_85 : decode prog_108_method_1_code 85 = .ok (.laload, 1) := by decide +kernel
theorem d1_86 : decode prog_108_method_1_code 86 = .ok (.ladd, 1) := by decide +kernel
theorem d1_87 : decode prog_108_method_1_code 87 = .ok (.lastore, 1) := by decide +kernel
theorem d1_88 : decode prog_108_method_1_code 88 = .ok (.aload_n 3, 1) := by decide +kernel
theorem d1_89 : decode prog_108_method_1_code 89 = .ok (.iload 7, 2) := by decide +kernel
theorem d1_91 : decode prog_108_method_1_code 91 = .ok (.laload, 1) := by decide +kernel
theorem d1_92 : decode prog_108_method_1_code 92 = .ok (.lconst 0, 1) := by decide +kernel
theorem d1_93 : decode prog_108_method_1_code 93 = .ok (.lcmp, 1) := by decide +kernel
theorem d1_94 : decode prog_108_method_1_code 94 = .ok (.ifCond .le 14, 3) := by decide +kernel
theorem d1_97 : decode prog_108_method_1_code 97 = .ok (.aload_n 0, 1) := by decide +kernel
theorem d1_98 : decode prog_108_method_1_code 98 = .ok (.getfield 29, 3) := by decide +kernel
theorem d1_101 : decode prog_108_method_1_code 101 = .ok (.iload 6, 2) := by decide +kernel
theorem d1_103 : decode prog_108_method_1_code 103 = .ok (.dup2, 1) := by decide +kernel
theorem d1_104 : decode prog_108_method_1_code 104 = .ok (.iaload, 1) := by decide +kernel
theorem d1_105 : decode prog_108_method_1_code 105 = .ok (.iconst 1, 1) := by decide +kernel
theorem d1_106 : decode prog_108_method_1_code 106 = .ok (.iadd, 1) := by decide +kernel
theorem d1_107 : decode prog_108_method_1_code 107 = .ok (.iastore, 1) := by decide +kernel
theorem d1_108 : decode prog_108_method_1_code 108 = .ok (.iinc 7 1, 3) := by decide +kernel
theorem d1_111 : decode prog_108_method_1_code 111 = .ok (.goto (-49), 3) := by decide +kernel
theorem d1_114 : decode prog_108_method_1_code 114 = .ok (.iinc 6 1, 3) := by decide +kernel
theorem d1_117 : decode prog_108_method_1_code 117 = .ok (.goto (-69), 3) := by decide +kernel
theorem d1_120 : decode prog_108_method_1_code 120 = .ok (.return_, 1) := by decide +kernel
set_option maxRecDepth 65536 in
set_option maxHeartbeats 40000000 in
theorem con_ctor (l : Launch) (Z : State) (a0 : Array Value) (hw : ∀ d ∈ tables_1, d.before a0 Z = true) (ws : List Jvm.Cond) (h0 : Heap) (n0 : Nat) (a1 r u f : Addr) (od n v0 c1 c2 c3 : Int32) (hn' : n = 0 ∨ n = 1 ∨ n = 2 ∨ n = 3) (E : Exa Z h0 a1 "com/example/garblescore/garblescore/language/CharacterCounts") (N : Kn h0 a1) (hn : n0 ≤ a1) (A_r : Arl Z h0 r .int [.int v0, .int c1, .int c2, .int c3]) (A_u : Arl Z h0 u .long [.long 0, .long 1, .long 1, .long 1]) (A_f : Arl Z h0 f .int [.int (1 : Int32), .int ((1 : Int32) + n), .int (4 : Int32), .int (4 : Int32), .int (4 : Int32)]) (ne_r : r ≠ a1) (ne_u : u ≠ a1) (ne_f : f ≠ a1) :
    Con l (⟨"com/example/garblescore/garblescore/language/CharacterCounts", "<init>", "(I[I[J[I)V"⟩ : MethodName) prog_108_method_1_code 8 none ({ frames := 1, cells := 2, slots := 8, locals := 12 } : Room) ws Z #[(.ref a1), (.int od), (.ref r), (.ref u), (.ref f)] h0 n0 (fun v h => v = none ∧ Keep h0 h [a1] ∧ Fld Z h a1 "com/example/garblescore/garblescore/language/CharacterCounts" "codePoints" "[I" (.ref r) ∧ Fld Z h a1 "com/example/garblescore/garblescore/language/CharacterCounts" "firstChildren" "[I" (.ref f)) := by
  refine Con.of (plainFor_of_name pn0) ?_
  intro p e s m below meth c T X nm
  rw [show entryFrame m #[(.ref a1), (.int od), (.ref r), (.ref u), (.ref f)] 8 = mkF m 0 #[.val (.ref a1), .val (.int od), .val (.ref r), .val (.ref u), .val (.ref f), .unset, .unset, .unset] [] from by (first | (simp [entryFrame, mkF, argsToLocals, Value.category]; done) | rfl)]
  rcases hn' with rfl | rfl | rfl | rfl
  · change Arl Z h0 f .int [.int (1 : Int32), .int (1 : Int32), .int (4 : Int32), .int (4 : Int32), .int (4 : Int32)] at A_f
    have K := Keep.refl h0 [a1]
    refine Wk.aloadN X d1_0 1 rfl rfl rfl ?_
    refine Wk.initO X (t11 hw) (t12 hw) (t13 hw) rfl d1_1 4 rfl (by decide) 0 (Nat.le_of_eq rfl) (by decide) ?_
    intro T X
    refine Wk.aloadN X d1_4 5 rfl rfl rfl ?_
    refine Wk.iloadN X d1_5 6 rfl rfl ?_
    refine Wk.putF X (t14 hw) Via.refl E N (Or.inr ⟨(t15 hw), rfl, nm⟩) (t6 hw) (ty := .int) (by decide) rfl rfl hn d1_6 9 rfl ?_
    intro T h1 X W1 F_od_new
    have E := Exa.wr W1 E
    have N := N.wr W1
    have A_r := A_r.other W1 ne_r
    have A_u := A_u.other W1 ne_u
    have A_f := A_f.other W1 ne_f
    have K := K.wr W1 (Or.inl (List.mem_singleton.mpr rfl))
    refine Wk.aloadN X d1_9 10 rfl rfl rfl ?_
    refine Wk.aloadN X d1_10 11 rfl rfl rfl ?_
    refine Wk.putF X (t16 hw) Via.refl E N (Or.inr ⟨(t17 hw), rfl, nm⟩) (t6 hw) (ty := (.array .int)) (by decide) rfl rfl hn d1_11 14 rfl ?_
    intro T h2 X W2 F_cps_new
    have E := Exa.wr W2 E
    have N := N.wr W2
    have A_r := A_r.other W2 ne_r
    have A_u := A_u.other W2 ne_u
    have A_f := A_f.other W2 ne_f
    have K := K.wr W2 (Or.inl (List.mem_singleton.mpr rfl))
    have F_cps := F_cps_new
    refine Wk.aloadN X d1_14 15 rfl rfl rfl ?_
    refine Wk.aloadN X d1_15 16 rfl rfl rfl ?_
    refine Wk.putF X (t18 hw) Via.refl E N (Or.inr ⟨(t19 hw), rfl, nm⟩) (t6 hw) (ty := (.array .long)) (by decide) rfl rfl hn d1_16 19 rfl ?_
    intro T h3 X W3 F_cnt_new
    have E := Exa.wr W3 E
    have N := N.wr W3
    have A_r := A_r.other W3 ne_r
    have A_u := A_u.other W3 ne_u
    have A_f := A_f.other W3 ne_f
    have K := K.wr W3 (Or.inl (List.mem_singleton.mpr rfl))
    have F_cps := Fld.other W3 F_cps (Or.inr (slot_ne (Or.inr (t17 hw)) (Or.inr (t19 hw)) (by decide) (t := (.array .int)) (t' := (.array .long)) (by decide) (by decide)))
    refine Wk.aloadN X d1_19 20 rfl rfl rfl ?_
    refine Wk.aload X d1_20 22 rfl rfl rfl ?_
    refine Wk.putF X (t20 hw) Via.refl E N (Or.inr ⟨(t21 hw), rfl, nm⟩) (t6 hw) (ty := (.array .int)) (by decide) rfl rfl hn d1_22 25 rfl ?_
    intro T h4 X W4 F_fc_new
    have E := Exa.wr W4 E
    have N := N.wr W4
    have A_r := A_r.other W4 ne_r
    have A_u := A_u.other W4 ne_u
    have A_f := A_f.other W4 ne_f
    have K := K.wr W4 (Or.inl (List.mem_singleton.mpr rfl))
    have F_cps := Fld.other W4 F_cps (Or.inr (slot_ne (Or.inr (t17 hw)) (Or.inr (t21 hw)) (by decide) (t := (.array .int)) (t' := (.array .int)) (by decide) (by decide)))
    have F_fc := F_fc_new
    refine Wk.aloadN X d1_25 26 rfl rfl rfl ?_
    refine Wk.arraylength X A_r d1_26 27 rfl (4 : Int32) rfl ?_
    refine Wk.istore X d1_27 29 rfl #[.val (.ref a1), .val (.int od), .val (.ref r), .val (.ref u), .val (.ref f), .val (.int (4 : Int32)), .unset, .unset] rfl ?_
    refine Wk.aloadN X d1_29 30 rfl rfl rfl ?_
    refine Wk.iload X d1_30 32 rfl rfl ?_
    refine Wk.newarray (aty := .long) X (t4 hw) d1_32 34 rfl 4 rfl 4 (Nat.le_refl _) (by decide) (by decide) (by decide) ?_
    intro T h5 tt gtt X E5 A_tt
    have ne_tt : a1 ≠ tt := ne_new (Exa.lt E) gtt
    have ne_utt : u ≠ tt := ne_new A_u.lt gtt
    have ne_ftt : f ≠ tt := ne_new A_f.lt gtt
    have ge_tt : h0.size ≤ tt := by have := K.1; omega
    have nn_tt : n0 ≤ tt := nn_new hn (Exa.lt E) gtt
    have E := Exa.ext E5 E
    have N := N.ext E5
    have A_u := A_u.ext E5
    have A_f := A_f.ext E5
    have K := K.ext E5
    have F_cps := Fld.ext E5 F_cps
    have F_fc := Fld.ext E5 F_fc
    change Arl Z h5 tt .long [.long 0, .long 0, .long 0, .long 0] at A_tt
    refine Wk.putF X (t22 hw) Via.refl E N (Or.inr ⟨(t23 hw), rfl, nm⟩) (t6 hw) (ty := (.array .long)) (by decide) rfl rfl hn d1_34 37 rfl ?_
    intro T h6 X W6 F_tot_new
    have E := Exa.wr W6 E
    have N := N.wr W6
    have A_u := A_u.other W6 ne_u
    have A_f := A_f.other W6 ne_f
    have K := K.wr W6 (Or.inl (List.mem_singleton.mpr rfl))
    have F_cps := Fld.other W6 F_cps (Or.inr (slot_ne (Or.inr (t17 hw)) (Or.inr (t23 hw)) (by decide) (t := (.array .int)) (t' := (.array .long)) (by decide) (by decide)))
    have F_fc := Fld.other W6 F_fc (Or.inr (slot_ne (Or.inr (t21 hw)) (Or.inr (t23 hw)) (by decide) (t := (.array .int)) (t' := (.array .long)) (by decide) (by decide)))
    have A_tt := A_tt.other W6 (Ne.symm ne_tt)
    have F_tot := F_tot_new
    refine Wk.aloadN X d1_37 38 rfl rfl rfl ?_
    refine Wk.iload X d1_38 40 rfl rfl ?_
    refine Wk.newarray (aty := .int) X (t2 hw) d1_40 42 rfl 4 rfl 4 (Nat.le_refl _) (by decide) (by decide) (by decide) ?_
    intro T h7 yy gyy X E7 A_yy
    have ne_yy : a1 ≠ yy := ne_new (Exa.lt E) gyy
    have ne_uyy : u ≠ yy := ne_new A_u.lt gyy
    have ne_fyy : f ≠ yy := ne_new A_f.lt gyy
    have ne_ttyy : tt ≠ yy := ne_new A_tt.lt gyy
    have ge_yy : h0.size ≤ yy := by have := K.1; omega
    have nn_yy : n0 ≤ yy := nn_new hn (Exa.lt E) gyy
    have E := Exa.ext E7 E
    have N := N.ext E7
    have A_u := A_u.ext E7
    have A_f := A_f.ext E7
    have K := K.ext E7
    have F_cps := Fld.ext E7 F_cps
    have F_fc := Fld.ext E7 F_fc
    have A_tt := A_tt.ext E7
    have F_tot := Fld.ext E7 F_tot
    change Arl Z h7 yy .int [.int 0, .int 0, .int 0, .int 0] at A_yy
    refine Wk.putF X (t24 hw) Via.refl E N (Or.inr ⟨(t25 hw), rfl, nm⟩) (t6 hw) (ty := (.array .int)) (by decide) rfl rfl hn d1_42 45 rfl ?_
    intro T h8 X W8 F_typ_new
    have E := Exa.wr W8 E
    have N := N.wr W8
    have A_u := A_u.other W8 ne_u
    have A_f := A_f.other W8 ne_f
    have K := K.wr W8 (Or.inl (List.mem_singleton.mpr rfl))
    have F_cps := Fld.other W8 F_cps (Or.inr (slot_ne (Or.inr (t17 hw)) (Or.inr (t25 hw)) (by decide) (t := (.array .int)) (t' := (.array .int)) (by decide) (by decide)))
    have F_fc := Fld.other W8 F_fc (Or.inr (slot_ne (Or.inr (t21 hw)) (Or.inr (t25 hw)) (by decide) (t := (.array .int)) (t' := (.array .int)) (by decide) (by decide)))
    have A_tt := A_tt.other W8 (Ne.symm ne_tt)
    have F_tot := Fld.other W8 F_tot (Or.inr (slot_ne (Or.inr (t23 hw)) (Or.inr (t25 hw)) (by decide) (t := (.array .long)) (t' := (.array .int)) (by decide) (by decide)))
    have A_yy := A_yy.other W8 (Ne.symm ne_yy)
    have F_typ := F_typ_new
    refine Wk.iconst X d1_45 46 rfl (0 : Int32) rfl ?_
    refine Wk.istore X d1_46 48 rfl #[.val (.ref a1), .val (.int od), .val (.ref r), .val (.ref u), .val (.ref f), .val (.int (4 : Int32)), .val (.int (0 : Int32)), .unset] rfl ?_
    refine Wk.iload X d1_48 50 rfl rfl ?_
    refine Wk.iload X d1_50 52 rfl rfl ?_
    refine Wk.icmpF X d1_52 55 rfl (show (0 : Int32) < (4 : Int32) from (by decide)) ?_
    refine Wk.aload X d1_55 57 rfl rfl rfl ?_
    refine Wk.iload X d1_57 59 rfl rfl ?_
    refine Wk.iaload X A_f 0 rfl rfl d1_59 60 rfl ?_
    refine Wk.istore X d1_60 62 rfl #[.val (.ref a1), .val (.int od), .val (.ref r), .val (.ref u), .val (.ref f), .val (.int (4 : Int32)), .val (.int (0 : Int32)), .val (.int (1 : Int32))] rfl ?_
    refine Wk.iload X d1_62 64 rfl rfl ?_
    refine Wk.aload X d1_64 66 rfl rfl rfl ?_
    refine Wk.iload X d1_66 68 rfl rfl ?_
    refine Wk.iconst X d1_68 69 rfl (1 : Int32) rfl ?_
    refine Wk.iadd X d1_69 70 rfl ?_
    refine Wk.topI (1 : Int32) (by decide) ?_
    refine Wk.iaload X A_f 1 rfl rfl d1_70 71 rfl ?_
    refine Wk.icmpT X d1_71 114 (by decide) (show ¬ (1 : Int32) < (1 : Int32) from (by decide)) ?_
    refine Wk.iinc X d1_114 117 rfl #[.val (.ref a1), .val (.int od), .val (.ref r), .val (.ref u), .val (.ref f), .val (.int (4 : Int32)), .val (.int (1 : Int32)), .val (.int (1 : Int32))] rfl rfl ?_
    refine Wk.goto X d1_117 48 (by decide) ?_
    refine Wk.iload X d1_48 50 rfl rfl ?_
    refine Wk.iload X d1_50 52 rfl rfl ?_
    refine Wk.icmpF X d1_52 55 rfl (show (1 : Int32) < (4 : Int32) from (by decide)) ?_
    refine Wk.aload X d1_55 57 rfl rfl rfl ?_
    refine Wk.iload X d1_57 59 rfl rfl ?_
    refine Wk.iaload X A_f 1 rfl rfl d1_59 60 rfl ?_
    refine Wk.istore X d1_60 62 rfl #[.val (.ref a1), .val (.int od), .val (.ref r), .val (.ref u), .val (.ref f), .val (.int (4 : Int32)), .val (.int (1 : Int32)), .val (.int (1 : Int32))] rfl ?_
    refine Wk.iload X d1_62 64 rfl rfl ?_
    refine Wk.aload X d1_64 66 rfl rfl rfl ?_
    refine Wk.iload X d1_66 68 rfl rfl ?_
    refine Wk.iconst X d1_68 69 rfl (1 : Int32) rfl ?_
    refine Wk.iadd X d1_69 70 rfl ?_
    refine Wk.topI (2 : Int32) (by decide) ?_
    refine Wk.iaload X A_f 2 rfl rfl d1_70 71 rfl ?_
    refine Wk.icmpF X d1_71 74 rfl (show (1 : Int32) < (4 : Int32) from (by decide)) ?_
    refine Wk.aloadN X d1_74 75 rfl rfl rfl ?_
    refine Wk.getfield X (t22 hw) Via.refl F_tot d1_75 78 rfl ?_
    intro T X
    refine Wk.iload X d1_78 80 rfl rfl ?_
    refine Wk.dup2 X d1_80 81 rfl rfl rfl ?_
    refine Wk.laload X A_tt 1 rfl rfl d1_81 82 rfl ?_
    refine Wk.aloadN X d1_82 83 rfl rfl rfl ?_
    refine Wk.iload X d1_83 85 rfl rfl ?_
    refine Wk.laload X A_u 1 rfl rfl d1_85 86 rfl ?_
    refine Wk.ladd X d1_86 87 rfl ?_
    refine Wk.lastore X A_tt nn_tt 1 rfl (Nat.le_of_ble_eq_true rfl) d1_87 88 rfl ?_
    intro T h9 X W9
    have A_u := A_u.other W9 ne_utt
    have A_f := A_f.other W9 ne_ftt
    have K := K.wr W9 (Or.inr ge_tt)
    have F_cps := Fld.other W9 F_cps (Or.inl ne_tt)
    have F_fc := Fld.other W9 F_fc (Or.inl ne_tt)
    have F_tot := Fld.other W9 F_tot (Or.inl ne_tt)
    have A_yy := A_yy.other W9 (Ne.symm ne_ttyy)
    have F_typ := Fld.other W9 F_typ (Or.inl ne_tt)
    have A_tt := A_tt.set W9
    change Arl Z h9 tt .long [.long (0 : Int64), .long ((0 : Int64) + (1 : Int64)), .long (0 : Int64), .long (0 : Int64)] at A_tt
    refine Wk.aloadN X d1_88 89 rfl rfl rfl ?_
    refine Wk.iload X d1_89 91 rfl rfl ?_
    refine Wk.laload X A_u 1 rfl rfl d1_91 92 rfl ?_
    refine Wk.lconst X d1_92 93 rfl (0 : Int64) rfl ?_
    refine Wk.lcmp X d1_93 94 rfl ?_
    refine Wk.topI (1 : Int32) (by decide) ?_
    refine Wk.ifcF X d1_94 97 rfl (show (0 : Int32) < (1 : Int32) from (by decide)) ?_
    refine Wk.aloadN X d1_97 98 rfl rfl rfl ?_
    refine Wk.getfield X (t24 hw) Via.refl F_typ d1_98 101 rfl ?_
    intro T X
    refine Wk.iload X d1_101 103 rfl rfl ?_
    refine Wk.dup2 X d1_103 104 rfl rfl rfl ?_
    refine Wk.iaload X A_yy 1 rfl rfl d1_104 105 rfl ?_
    refine Wk.iconst X d1_105 106 rfl (1 : Int32) rfl ?_
    refine Wk.iadd X d1_106 107 rfl ?_
    refine Wk.topI (1 : Int32) (by decide) ?_
    refine Wk.iastore X A_yy nn_yy 1 rfl (Nat.le_of_ble_eq_true rfl) d1_107 108 rfl ?_
    intro T h10 X W10
    have A_u := A_u.other W10 ne_uyy
    have A_f := A_f.other W10 ne_fyy
    have K := K.wr W10 (Or.inr ge_yy)
    have F_cps := Fld.other W10 F_cps (Or.inl ne_yy)
    have F_fc := Fld.other W10 F_fc (Or.inl ne_yy)
    have A_tt := A_tt.other W10 ne_ttyy
    have F_tot := Fld.other W10 F_tot (Or.inl ne_yy)
    have F_typ := Fld.other W10 F_typ (Or.inl ne_yy)
    have A_yy := A_yy.set W10
    change Arl Z h10 yy .int [.int (0 : Int32), .int (1 : Int32), .int (0 : Int32), .int (0 : Int32)] at A_yy
    refine Wk.iinc X d1_108 111 rfl #[.val (.ref a1), .val (.int od), .val (.ref r), .val (.ref u), .val (.ref f), .val (.int (4 : Int32)), .val (.int (1 : Int32)), .val (.int (2 : Int32))] rfl rfl ?_
    refine Wk.goto X d1_111 62 (by decide) ?_
    refine Wk.iload X d1_62 64 rfl rfl ?_
    refine Wk.aload X d1_64 66 rfl rfl rfl ?_
    refine Wk.iload X d1_66 68 rfl rfl ?_
    refine Wk.iconst X d1_68 69 rfl (1 : Int32) rfl ?_
    refine Wk.iadd X d1_69 70 rfl ?_
    refine Wk.topI (2 : Int32) (by decide) ?_
    refine Wk.iaload X A_f 2 rfl rfl d1_70 71 rfl ?_
    refine Wk.icmpF X d1_71 74 rfl (show (2 : Int32) < (4 : Int32) from (by decide)) ?_
    refine Wk.aloadN X d1_74 75 rfl rfl rfl ?_
    refine Wk.getfield X (t22 hw) Via.refl F_tot d1_75 78 rfl ?_
    intro T X
    refine Wk.iload X d1_78 80 rfl rfl ?_
    refine Wk.dup2 X d1_80 81 rfl rfl rfl ?_
    refine Wk.laload X A_tt 1 rfl rfl d1_81 82 rfl ?_
    refine Wk.aloadN X d1_82 83 rfl rfl rfl ?_
    refine Wk.iload X d1_83 85 rfl rfl ?_
    refine Wk.laload X A_u 2 rfl rfl d1_85 86 rfl ?_
    refine Wk.ladd X d1_86 87 rfl ?_
    refine Wk.lastore X A_tt nn_tt 1 rfl (Nat.le_of_ble_eq_true rfl) d1_87 88 rfl ?_
    intro T h11 X W11
    have A_u := A_u.other W11 ne_utt
    have A_f := A_f.other W11 ne_ftt
    have K := K.wr W11 (Or.inr ge_tt)
    have F_cps := Fld.other W11 F_cps (Or.inl ne_tt)
    have F_fc := Fld.other W11 F_fc (Or.inl ne_tt)
    have F_tot := Fld.other W11 F_tot (Or.inl ne_tt)
    have A_yy := A_yy.other W11 (Ne.symm ne_ttyy)
    have F_typ := Fld.other W11 F_typ (Or.inl ne_tt)
    have A_tt := A_tt.set W11
    change Arl Z h11 tt .long [.long (0 : Int64), .long (((0 : Int64) + (1 : Int64)) + (1 : Int64)), .long (0 : Int64), .long (0 : Int64)] at A_tt
    refine Wk.aloadN X d1_88 89 rfl rfl rfl ?_
    refine Wk.iload X d1_89 91 rfl rfl ?_
    refine Wk.laload X A_u 2 rfl rfl d1_91 92 rfl ?_
    refine Wk.lconst X d1_92 93 rfl (0 : Int64) rfl ?_
    refine Wk.lcmp X d1_93 94 rfl ?_
    refine Wk.topI (1 : Int32) (by decide) ?_
    refine Wk.ifcF X d1_94 97 rfl (show (0 : Int32) < (1 : Int32) from (by decide)) ?_
    refine Wk.aloadN X d1_97 98 rfl rfl rfl ?_
    refine Wk.getfield X (t24 hw) Via.refl F_typ d1_98 101 rfl ?_
    intro T X
    refine Wk.iload X d1_101 103 rfl rfl ?_
    refine Wk.dup2 X d1_103 104 rfl rfl rfl ?_
    refine Wk.iaload X A_yy 1 rfl rfl d1_104 105 rfl ?_
    refine Wk.iconst X d1_105 106 rfl (1 : Int32) rfl ?_
    refine Wk.iadd X d1_106 107 rfl ?_
    refine Wk.topI (2 : Int32) (by decide) ?_
    refine Wk.iastore X A_yy nn_yy 1 rfl (Nat.le_of_ble_eq_true rfl) d1_107 108 rfl ?_
    intro T h12 X W12
    have A_u := A_u.other W12 ne_uyy
    have A_f := A_f.other W12 ne_fyy
    have K := K.wr W12 (Or.inr ge_yy)
    have F_cps := Fld.other W12 F_cps (Or.inl ne_yy)
    have F_fc := Fld.other W12 F_fc (Or.inl ne_yy)
    have A_tt := A_tt.other W12 ne_ttyy
    have F_tot := Fld.other W12 F_tot (Or.inl ne_yy)
    have F_typ := Fld.other W12 F_typ (Or.inl ne_yy)
    have A_yy := A_yy.set W12
    change Arl Z h12 yy .int [.int (0 : Int32), .int (2 : Int32), .int (0 : Int32), .int (0 : Int32)] at A_yy
    refine Wk.iinc X d1_108 111 rfl #[.val (.ref a1), .val (.int od), .val (.ref r), .val (.ref u), .val (.ref f), .val (.int (4 : Int32)), .val (.int (1 : Int32)), .val (.int (3 : Int32))] rfl rfl ?_
    refine Wk.goto X d1_111 62 (by decide) ?_
    refine Wk.iload X d1_62 64 rfl rfl ?_
    refine Wk.aload X d1_64 66 rfl rfl rfl ?_
    refine Wk.iload X d1_66 68 rfl rfl ?_
    refine Wk.iconst X d1_68 69 rfl (1 : Int32) rfl ?_
    refine Wk.iadd X d1_69 70 rfl ?_
    refine Wk.topI (2 : Int32) (by decide) ?_
    refine Wk.iaload X A_f 2 rfl rfl d1_70 71 rfl ?_
    refine Wk.icmpF X d1_71 74 rfl (show (3 : Int32) < (4 : Int32) from (by decide)) ?_
    refine Wk.aloadN X d1_74 75 rfl rfl rfl ?_
    refine Wk.getfield X (t22 hw) Via.refl F_tot d1_75 78 rfl ?_
    intro T X
    refine Wk.iload X d1_78 80 rfl rfl ?_
    refine Wk.dup2 X d1_80 81 rfl rfl rfl ?_
    refine Wk.laload X A_tt 1 rfl rfl d1_81 82 rfl ?_
    refine Wk.aloadN X d1_82 83 rfl rfl rfl ?_
    refine Wk.iload X d1_83 85 rfl rfl ?_
    refine Wk.laload X A_u 3 rfl rfl d1_85 86 rfl ?_
    refine Wk.ladd X d1_86 87 rfl ?_
    refine Wk.lastore X A_tt nn_tt 1 rfl (Nat.le_of_ble_eq_true rfl) d1_87 88 rfl ?_
    intro T h13 X W13
    have A_u := A_u.other W13 ne_utt
    have A_f := A_f.other W13 ne_ftt
    have K := K.wr W13 (Or.inr ge_tt)
    have F_cps := Fld.other W13 F_cps (Or.inl ne_tt)
    have F_fc := Fld.other W13 F_fc (Or.inl ne_tt)
    have F_tot := Fld.other W13 F_tot (Or.inl ne_tt)
    have A_yy := A_yy.other W13 (Ne.symm ne_ttyy)
    have F_typ := Fld.other W13 F_typ (Or.inl ne_tt)
    have A_tt := A_tt.set W13
    change Arl Z h13 tt .long [.long (0 : Int64), .long ((((0 : Int64) + (1 : Int64)) + (1 : Int64)) + (1 : Int64)), .long (0 : Int64), .long (0 : Int64)] at A_tt
    refine Wk.aloadN X d1_88 89 rfl rfl rfl ?_
    refine Wk.iload X d1_89 91 rfl rfl ?_
    refine Wk.laload X A_u 3 rfl rfl d1_91 92 rfl ?_
    refine Wk.lconst X d1_92 93 rfl (0 : Int64) rfl ?_
    refine Wk.lcmp X d1_93 94 rfl ?_
    refine Wk.topI (1 : Int32) (by decide) ?_
    refine Wk.ifcF X d1_94 97 rfl (show (0 : Int32) < (1 : Int32) from (by decide)) ?_
    refine Wk.aloadN X d1_97 98 rfl rfl rfl ?_
    refine Wk.getfield X (t24 hw) Via.refl F_typ d1_98 101 rfl ?_
    intro T X
    refine Wk.iload X d1_101 103 rfl rfl ?_
    refine Wk.dup2 X d1_103 104 rfl rfl rfl ?_
    refine Wk.iaload X A_yy 1 rfl rfl d1_104 105 rfl ?_
    refine Wk.iconst X d1_105 106 rfl (1 : Int32) rfl ?_
    refine Wk.iadd X d1_106 107 rfl ?_
    refine Wk.topI (3 : Int32) (by decide) ?_
    refine Wk.iastore X A_yy nn_yy 1 rfl (Nat.le_of_ble_eq_true rfl) d1_107 108 rfl ?_
    intro T h14 X W14
    have A_u := A_u.other W14 ne_uyy
    have A_f := A_f.other W14 ne_fyy
    have K := K.wr W14 (Or.inr ge_yy)
    have F_cps := Fld.other W14 F_cps (Or.inl ne_yy)
    have F_fc := Fld.other W14 F_fc (Or.inl ne_yy)
    have A_tt := A_tt.other W14 ne_ttyy
    have F_tot := Fld.other W14 F_tot (Or.inl ne_yy)
    have F_typ := Fld.other W14 F_typ (Or.inl ne_yy)
    have A_yy := A_yy.set W14
    change Arl Z h14 yy .int [.int (0 : Int32), .int (3 : Int32), .int (0 : Int32), .int (0 : Int32)] at A_yy
    refine Wk.iinc X d1_108 111 rfl #[.val (.ref a1), .val (.int od), .val (.ref r), .val (.ref u), .val (.ref f), .val (.int (4 : Int32)), .val (.int (1 : Int32)), .val (.int (4 : Int32))] rfl rfl ?_
    refine Wk.goto X d1_111 62 (by decide) ?_
    refine Wk.iload X d1_62 64 rfl rfl ?_
    refine Wk.aload X d1_64 66 rfl rfl rfl ?_
    refine Wk.iload X d1_66 68 rfl rfl ?_
    refine Wk.iconst X d1_68 69 rfl (1 : Int32) rfl ?_
    refine Wk.iadd X d1_69 70 rfl ?_
    refine Wk.topI (2 : Int32) (by decide) ?_
    refine Wk.iaload X A_f 2 rfl rfl d1_70 71 rfl ?_
    refine Wk.icmpT X d1_71 114 (by decide) (show ¬ (4 : Int32) < (4 : Int32) from (by decide)) ?_
    refine Wk.iinc X d1_114 117 rfl #[.val (.ref a1), .val (.int od), .val (.ref r), .val (.ref u), .val (.ref f), .val (.int (4 : Int32)), .val (.int (2 : Int32)), .val (.int (4 : Int32))] rfl rfl ?_
    refine Wk.goto X d1_117 48 (by decide) ?_
    refine Wk.iload X d1_48 50 rfl rfl ?_
    refine Wk.iload X d1_50 52 rfl rfl ?_
    refine Wk.icmpF X d1_52 55 rfl (show (2 : Int32) < (4 : Int32) from (by decide)) ?_
    refine Wk.aload X d1_55 57 rfl rfl rfl ?_
    refine Wk.iload X d1_57 59 rfl rfl ?_
    refine Wk.iaload X A_f 2 rfl rfl d1_59 60 rfl ?_
    refine Wk.istore X d1_60 62 rfl #[.val (.ref a1), .val (.int od), .val (.ref r), .val (.ref u), .val (.ref f), .val (.int (4 : Int32)), .val (.int (2 : Int32)), .val (.int (4 : Int32))] rfl ?_
    refine Wk.iload X d1_62 64 rfl rfl ?_
    refine Wk.aload X d1_64 66 rfl rfl rfl ?_
    refine Wk.iload X d1_66 68 rfl rfl ?_
    refine Wk.iconst X d1_68 69 rfl (1 : Int32) rfl ?_
    refine Wk.iadd X d1_69 70 rfl ?_
    refine Wk.topI (3 : Int32) (by decide) ?_
    refine Wk.iaload X A_f 3 rfl rfl d1_70 71 rfl ?_
    refine Wk.icmpT X d1_71 114 (by decide) (show ¬ (4 : Int32) < (4 : Int32) from (by decide)) ?_
    refine Wk.iinc X d1_114 117 rfl #[.val (.ref a1), .val (.int od), .val (.ref r), .val (.ref u), .val (.ref f), .val (.int (4 : Int32)), .val (.int (3 : Int32)), .val (.int (4 : Int32))] rfl rfl ?_
    refine Wk.goto X d1_117 48 (by decide) ?_
    refine Wk.iload X d1_48 50 rfl rfl ?_
    refine Wk.iload X d1_50 52 rfl rfl ?_
    refine Wk.icmpF X d1_52 55 rfl (show (3 : Int32) < (4 : Int32) from (by decide)) ?_
    refine Wk.aload X d1_55 57 rfl rfl rfl ?_
    refine Wk.iload X d1_57 59 rfl rfl ?_
    refine Wk.iaload X A_f 3 rfl rfl d1_59 60 rfl ?_
    refine Wk.istore X d1_60 62 rfl #[.val (.ref a1), .val (.int od), .val (.ref r), .val (.ref u), .val (.ref f), .val (.int (4 : Int32)), .val (.int (3 : Int32)), .val (.int (4 : Int32))] rfl ?_
    refine Wk.iload X d1_62 64 rfl rfl ?_
    refine Wk.aload X d1_64 66 rfl rfl rfl ?_
    refine Wk.iload X d1_66 68 rfl rfl ?_
    refine Wk.iconst X d1_68 69 rfl (1 : Int32) rfl ?_
    refine Wk.iadd X d1_69 70 rfl ?_
    refine Wk.topI (4 : Int32) (by decide) ?_
    refine Wk.iaload X A_f 4 rfl rfl d1_70 71 rfl ?_
    refine Wk.icmpT X d1_71 114 (by decide) (show ¬ (4 : Int32) < (4 : Int32) from (by decide)) ?_
    refine Wk.iinc X d1_114 117 rfl #[.val (.ref a1), .val (.int od), .val (.ref r), .val (.ref u), .val (.ref f), .val (.int (4 : Int32)), .val (.int (4 : Int32)), .val (.int (4 : Int32))] rfl rfl ?_
    refine Wk.goto X d1_117 48 (by decide) ?_
    refine Wk.iload X d1_48 50 rfl rfl ?_
    refine Wk.iload X d1_50 52 rfl rfl ?_
    refine Wk.icmpT X d1_52 120 (by decide) (show ¬ (4 : Int32) < (4 : Int32) from (by decide)) ?_
    exact Wk.vreturn X d1_120 (by decide) (by decide) ⟨rfl, K, F_cps, F_fc⟩
  · change Arl Z h0 f .int [.int (1 : Int32), .int (2 : Int32), .int (4 : Int32), .int (4 : Int32), .int (4 : Int32)] at A_f
    have K := Keep.refl h0 [a1]
    refine Wk.aloadN X d1_0 1 rfl rfl rfl ?_
    refine Wk.initO X (t11 hw) (t12 hw) (t13 hw) rfl d1_1 4 rfl (by decide) 0 (Nat.le_of_eq rfl) (by decide) ?_
    intro T X
    refine Wk.aloadN X d1_4 5 rfl rfl rfl ?_
    refine Wk.iloadN X d1_5 6 rfl rfl ?_
    refine Wk.putF X (t14 hw) Via.refl E N (Or.inr ⟨(t15 hw), rfl, nm⟩) (t6 hw) (ty := .int) (by decide) rfl rfl hn d1_6 9 rfl ?_
    intro T h1 X W1 F_od_new
    have E := Exa.wr W1 E
    have N := N.wr W1
    have A_r := A_r.other W1 ne_r
    have A_u := A_u.other W1 ne_u
    have A_f := A_f.other W1 ne_f
    have K := K.wr W1 (Or.inl (List.mem_singleton.mpr rfl))
    refine Wk.aloadN X d1_9 10 rfl rfl rfl ?_
    refine Wk.aloadN X d1_10 11 rfl rfl rfl ?_
    refine Wk.putF X (t16 hw) Via.refl E N (Or.inr ⟨(t17 hw), rfl, nm⟩) (t6 hw) (ty := (.array .int)) (by decide) rfl rfl hn d1_11 14 rfl ?_
    intro T h2 X W2 F_cps_new
    have E := Exa.wr W2 E
    have N := N.wr W2
    have A_r := A_r.other W2 ne_r
    have A_u := A_u.other W2 ne_u
    have A_f := A_f.other W2 ne_f
    have K := K.wr W2 (Or.inl (List.mem_singleton.mpr rfl))
    have F_cps := F_cps_new
    refine Wk.aloadN X d1_14 15 rfl rfl rfl ?_
    refine Wk.aloadN X d1_15 16 rfl rfl rfl ?_
    refine Wk.putF X (t18 hw) Via.refl E N (Or.inr ⟨(t19 hw), rfl, nm⟩) (t6 hw) (ty := (.array .long)) (by decide) rfl rfl hn d1_16 19 rfl ?_
    intro T h3 X W3 F_cnt_new
    have E := Exa.wr W3 E
    have N := N.wr W3
    have A_r := A_r.other W3 ne_r
    have A_u := A_u.other W3 ne_u
    have A_f := A_f.other W3 ne_f
    have K := K.wr W3 (Or.inl (List.mem_singleton.mpr rfl))
    have F_cps := Fld.other W3 F_cps (Or.inr (slot_ne (Or.inr (t17 hw)) (Or.inr (t19 hw)) (by decide) (t := (.array .int)) (t' := (.array .long)) (by decide) (by decide)))
    refine Wk.aloadN X d1_19 20 rfl rfl rfl ?_
    refine Wk.aload X d1_20 22 rfl rfl rfl ?_
    refine Wk.putF X (t20 hw) Via.refl E N (Or.inr ⟨(t21 hw), rfl, nm⟩) (t6 hw) (ty := (.array .int)) (by decide) rfl rfl hn d1_22 25 rfl ?_
    intro T h4 X W4 F_fc_new
    have E := Exa.wr W4 E
    have N := N.wr W4
    have A_r := A_r.other W4 ne_r
    have A_u := A_u.other W4 ne_u
    have A_f := A_f.other W4 ne_f
    have K := K.wr W4 (Or.inl (List.mem_singleton.mpr rfl))
    have F_cps := Fld.other W4 F_cps (Or.inr (slot_ne (Or.inr (t17 hw)) (Or.inr (t21 hw)) (by decide) (t := (.array .int)) (t' := (.array .int)) (by decide) (by decide)))
    have F_fc := F_fc_new
    refine Wk.aloadN X d1_25 26 rfl rfl rfl ?_
    refine Wk.arraylength X A_r d1_26 27 rfl (4 : Int32) rfl ?_
    refine Wk.istore X d1_27 29 rfl #[.val (.ref a1), .val (.int od), .val (.ref r), .val (.ref u), .val (.ref f), .val (.int (4 : Int32)), .unset, .unset] rfl ?_
    refine Wk.aloadN X d1_29 30 rfl rfl rfl ?_
    refine Wk.iload X d1_30 32 rfl rfl ?_
    refine Wk.newarray (aty := .long) X (t4 hw) d1_32 34 rfl 4 rfl 4 (Nat.le_refl _) (by decide) (by decide) (by decide) ?_
    intro T h5 tt gtt X E5 A_tt
    have ne_tt : a1 ≠ tt := ne_new (Exa.lt E) gtt
    have ne_utt : u ≠ tt := ne_new A_u.lt gtt
    have ne_ftt : f ≠ tt := ne_new A_f.lt gtt
    have ge_tt : h0.size ≤ tt := by have := K.1; omega
    have nn_tt : n0 ≤ tt := nn_new hn (Exa.lt E) gtt
    have E := Exa.ext E5 E
    have N := N.ext E5
    have A_u := A_u.ext E5
    have A_f := A_f.ext E5
    have K := K.ext E5
    have F_cps := Fld.ext E5 F_cps
    have F_fc := Fld.ext E5 F_fc
    change Arl Z h5 tt .long [.long 0, .long 0, .long 0, .long 0] at A_tt
    refine Wk.putF X (t22 hw) Via.refl E N (Or.inr ⟨(t23 hw), rfl, nm⟩) (t6 hw) (ty := (.array .long)) (by decide) rfl rfl hn d1_34 37 rfl ?_
    intro T h6 X W6 F_tot_new
    have E := Exa.wr W6 E
    have N := N.wr W6
    have A_u := A_u.other W6 ne_u
    have A_f := A_f.other W6 ne_f
    have K := K.wr W6 (Or.inl (List.mem_singleton.mpr rfl))
    have F_cps := Fld.other W6 F_cps (Or.inr (slot_ne (Or.inr (t17 hw)) (Or.inr (t23 hw)) (by decide) (t := (.array .int)) (t' := (.array .long)) (by decide) (by decide)))
    have F_fc := Fld.other W6 F_fc (Or.inr (slot_ne (Or.inr (t21 hw)) (Or.inr (t23 hw)) (by decide) (t := (.array .int)) (t' := (.array .long)) (by decide) (by decide)))
    have A_tt := A_tt.other W6 (Ne.symm ne_tt)
    have F_tot := F_tot_new
    refine Wk.aloadN X d1_37 38 rfl rfl rfl ?_
    refine Wk.iload X d1_38 40 rfl rfl ?_
    refine Wk.newarray (aty := .int) X (t2 hw) d1_40 42 rfl 4 rfl 4 (Nat.le_refl _) (by decide) (by decide) (by decide) ?_
    intro T h7 yy gyy X E7 A_yy
    have ne_yy : a1 ≠ yy := ne_new (Exa.lt E) gyy
    have ne_uyy : u ≠ yy := ne_new A_u.lt gyy
    have ne_fyy : f ≠ yy := ne_new A_f.lt gyy
    have ne_ttyy : tt ≠ yy := ne_new A_tt.lt gyy
    have ge_yy : h0.size ≤ yy := by have := K.1; omega
    have nn_yy : n0 ≤ yy := nn_new hn (Exa.lt E) gyy
    have E := Exa.ext E7 E
    have N := N.ext E7
    have A_u := A_u.ext E7
    have A_f := A_f.ext E7
    have K := K.ext E7
    have F_cps := Fld.ext E7 F_cps
    have F_fc := Fld.ext E7 F_fc
    have A_tt := A_tt.ext E7
    have F_tot := Fld.ext E7 F_tot
    change Arl Z h7 yy .int [.int 0, .int 0, .int 0, .int 0] at A_yy
    refine Wk.putF X (t24 hw) Via.refl E N (Or.inr ⟨(t25 hw), rfl, nm⟩) (t6 hw) (ty := (.array .int)) (by decide) rfl rfl hn d1_42 45 rfl ?_
    intro T h8 X W8 F_typ_new
    have E := Exa.wr W8 E
    have N := N.wr W8
    have A_u := A_u.other W8 ne_u
    have A_f := A_f.other W8 ne_f
    have K := K.wr W8 (Or.inl (List.mem_singleton.mpr rfl))
    have F_cps := Fld.other W8 F_cps (Or.inr (slot_ne (Or.inr (t17 hw)) (Or.inr (t25 hw)) (by decide) (t := (.array .int)) (t' := (.array .int)) (by decide) (by decide)))
    have F_fc := Fld.other W8 F_fc (Or.inr (slot_ne (Or.inr (t21 hw)) (Or.inr (t25 hw)) (by decide) (t := (.array .int)) (t' := (.array .int)) (by decide) (by decide)))
    have A_tt := A_tt.other W8 (Ne.symm ne_tt)
    have F_tot := Fld.other W8 F_tot (Or.inr (slot_ne (Or.inr (t23 hw)) (Or.inr (t25 hw)) (by decide) (t := (.array .long)) (t' := (.array .int)) (by decide) (by decide)))
    have A_yy := A_yy.other W8 (Ne.symm ne_yy)
    have F_typ := F_typ_new
    refine Wk.iconst X d1_45 46 rfl (0 : Int32) rfl ?_
    refine Wk.istore X d1_46 48 rfl #[.val (.ref a1), .val (.int od), .val (.ref r), .val (.ref u), .val (.ref f), .val (.int (4 : Int32)), .val (.int (0 : Int32)), .unset] rfl ?_
    refine Wk.iload X d1_48 50 rfl rfl ?_
    refine Wk.iload X d1_50 52 rfl rfl ?_
    refine Wk.icmpF X d1_52 55 rfl (show (0 : Int32) < (4 : Int32) from (by decide)) ?_
    refine Wk.aload X d1_55 57 rfl rfl rfl ?_
    refine Wk.iload X d1_57 59 rfl rfl ?_
    refine Wk.iaload X A_f 0 rfl rfl d1_59 60 rfl ?_
    refine Wk.istore X d1_60 62 rfl #[.val (.ref a1), .val (.int od), .val (.ref r), .val (.ref u), .val (.ref f), .val (.int (4 : Int32)), .val (.int (0 : Int32)), .val (.int (1 : Int32))] rfl ?_
    refine Wk.iload X d1_62 64 rfl rfl ?_
    refine Wk.aload X d1_64 66 rfl rfl rfl ?_
    refine Wk.iload X d1_66 68 rfl rfl ?_
    refine Wk.iconst X d1_68 69 rfl (1 : Int32) rfl ?_
    refine Wk.iadd X d1_69 70 rfl ?_
    refine Wk.topI (1 : Int32) (by decide) ?_
    refine Wk.iaload X A_f 1 rfl rfl d1_70 71 rfl ?_
    refine Wk.icmpF X d1_71 74 rfl (show (1 : Int32) < (2 : Int32) from (by decide)) ?_
    refine Wk.aloadN X d1_74 75 rfl rfl rfl ?_
    refine Wk.getfield X (t22 hw) Via.refl F_tot d1_75 78 rfl ?_
    intro T X
    refine Wk.iload X d1_78 80 rfl rfl ?_
    refine Wk.dup2 X d1_80 81 rfl rfl rfl ?_
    refine Wk.laload X A_tt 0 rfl rfl d1_81 82 rfl ?_
    refine Wk.aloadN X d1_82 83 rfl rfl rfl ?_
    refine Wk.iload X d1_83 85 rfl rfl ?_
    refine Wk.laload X A_u 1 rfl rfl d1_85 86 rfl ?_
    refine Wk.ladd X d1_86 87 rfl ?_
    refine Wk.lastore X A_tt nn_tt 0 rfl (Nat.le_of_ble_eq_true rfl) d1_87 88 rfl ?_
    intro T h9 X W9
    have A_u := A_u.other W9 ne_utt
    have A_f := A_f.other W9 ne_ftt
    have K := K.wr W9 (Or.inr ge_tt)
    have F_cps := Fld.other W9 F_cps (Or.inl ne_tt)
    have F_fc := Fld.other W9 F_fc (Or.inl ne_tt)
    have F_tot := Fld.other W9 F_tot (Or.inl ne_tt)
    have A_yy := A_yy.other W9 (Ne.symm ne_ttyy)
    have F_typ := Fld.other W9 F_typ (Or.inl ne_tt)
    have A_tt := A_tt.set W9
    change Arl Z h9 tt .long [.long ((0 : Int64) + (1 : Int64)), .long (0 : Int64), .long (0 : Int64), .long (0 : Int64)] at A_tt
    refine Wk.aloadN X d1_88 89 rfl rfl rfl ?_
    refine Wk.iload X d1_89 91 rfl rfl ?_
    refine Wk.laload X A_u 1 rfl rfl d1_91 92 rfl ?_
    refine Wk.lconst X d1_92 93 rfl (0 : Int64) rfl ?_
    refine Wk.lcmp X d1_93 94 rfl ?_
    refine Wk.topI (1 : Int32) (by decide) ?_
    refine Wk.ifcF X d1_94 97 rfl (show (0 : Int32) < (1 : Int32) from (by decide)) ?_
    refine Wk.aloadN X d1_97 98 rfl rfl rfl ?_
    refine Wk.getfield X (t24 hw) Via.refl F_typ d1_98 101 rfl ?_
    intro T X
    refine Wk.iload X d1_101 103 rfl rfl ?_
    refine Wk.dup2 X d1_103 104 rfl rfl rfl ?_
    refine Wk.iaload X A_yy 0 rfl rfl d1_104 105 rfl ?_
    refine Wk.iconst X d1_105 106 rfl (1 : Int32) rfl ?_
    refine Wk.iadd X d1_106 107 rfl ?_
    refine Wk.topI (1 : Int32) (by decide) ?_
    refine Wk.iastore X A_yy nn_yy 0 rfl (Nat.le_of_ble_eq_true rfl) d1_107 108 rfl ?_
    intro T h10 X W10
    have A_u := A_u.other W10 ne_uyy
    have A_f := A_f.other W10 ne_fyy
    have K := K.wr W10 (Or.inr ge_yy)
    have F_cps := Fld.other W10 F_cps (Or.inl ne_yy)
    have F_fc := Fld.other W10 F_fc (Or.inl ne_yy)
    have A_tt := A_tt.other W10 ne_ttyy
    have F_tot := Fld.other W10 F_tot (Or.inl ne_yy)
    have F_typ := Fld.other W10 F_typ (Or.inl ne_yy)
    have A_yy := A_yy.set W10
    change Arl Z h10 yy .int [.int (1 : Int32), .int (0 : Int32), .int (0 : Int32), .int (0 : Int32)] at A_yy
    refine Wk.iinc X d1_108 111 rfl #[.val (.ref a1), .val (.int od), .val (.ref r), .val (.ref u), .val (.ref f), .val (.int (4 : Int32)), .val (.int (0 : Int32)), .val (.int (2 : Int32))] rfl rfl ?_
    refine Wk.goto X d1_111 62 (by decide) ?_
    refine Wk.iload X d1_62 64 rfl rfl ?_
    refine Wk.aload X d1_64 66 rfl rfl rfl ?_
    refine Wk.iload X d1_66 68 rfl rfl ?_
    refine Wk.iconst X d1_68 69 rfl (1 : Int32) rfl ?_
    refine Wk.iadd X d1_69 70 rfl ?_
    refine Wk.topI (1 : Int32) (by decide) ?_
    refine Wk.iaload X A_f 1 rfl rfl d1_70 71 rfl ?_
    refine Wk.icmpT X d1_71 114 (by decide) (show ¬ (2 : Int32) < (2 : Int32) from (by decide)) ?_
    refine Wk.iinc X d1_114 117 rfl #[.val (.ref a1), .val (.int od), .val (.ref r), .val (.ref u), .val (.ref f), .val (.int (4 : Int32)), .val (.int (1 : Int32)), .val (.int (2 : Int32))] rfl rfl ?_
    refine Wk.goto X d1_117 48 (by decide) ?_
    refine Wk.iload X d1_48 50 rfl rfl ?_
    refine Wk.iload X d1_50 52 rfl rfl ?_
    refine Wk.icmpF X d1_52 55 rfl (show (1 : Int32) < (4 : Int32) from (by decide)) ?_
    refine Wk.aload X d1_55 57 rfl rfl rfl ?_
    refine Wk.iload X d1_57 59 rfl rfl ?_
    refine Wk.iaload X A_f 1 rfl rfl d1_59 60 rfl ?_
    refine Wk.istore X d1_60 62 rfl #[.val (.ref a1), .val (.int od), .val (.ref r), .val (.ref u), .val (.ref f), .val (.int (4 : Int32)), .val (.int (1 : Int32)), .val (.int (2 : Int32))] rfl ?_
    refine Wk.iload X d1_62 64 rfl rfl ?_
    refine Wk.aload X d1_64 66 rfl rfl rfl ?_
    refine Wk.iload X d1_66 68 rfl rfl ?_
    refine Wk.iconst X d1_68 69 rfl (1 : Int32) rfl ?_
    refine Wk.iadd X d1_69 70 rfl ?_
    refine Wk.topI (2 : Int32) (by decide) ?_
    refine Wk.iaload X A_f 2 rfl rfl d1_70 71 rfl ?_
    refine Wk.icmpF X d1_71 74 rfl (show (2 : Int32) < (4 : Int32) from (by decide)) ?_
    refine Wk.aloadN X d1_74 75 rfl rfl rfl ?_
    refine Wk.getfield X (t22 hw) Via.refl F_tot d1_75 78 rfl ?_
    intro T X
    refine Wk.iload X d1_78 80 rfl rfl ?_
    refine Wk.dup2 X d1_80 81 rfl rfl rfl ?_
    refine Wk.laload X A_tt 1 rfl rfl d1_81 82 rfl ?_
    refine Wk.aloadN X d1_82 83 rfl rfl rfl ?_
    refine Wk.iload X d1_83 85 rfl rfl ?_
    refine Wk.laload X A_u 2 rfl rfl d1_85 86 rfl ?_
    refine Wk.ladd X d1_86 87 rfl ?_
    refine Wk.lastore X A_tt nn_tt 1 rfl (Nat.le_of_ble_eq_true rfl) d1_87 88 rfl ?_
    intro T h11 X W11
    have A_u := A_u.other W11 ne_utt
    have A_f := A_f.other W11 ne_ftt
    have K := K.wr W11 (Or.inr ge_tt)
    have F_cps := Fld.other W11 F_cps (Or.inl ne_tt)
    have F_fc := Fld.other W11 F_fc (Or.inl ne_tt)
    have F_tot := Fld.other W11 F_tot (Or.inl ne_tt)
    have A_yy := A_yy.other W11 (Ne.symm ne_ttyy)
    have F_typ := Fld.other W11 F_typ (Or.inl ne_tt)
    have A_tt := A_tt.set W11
    change Arl Z h11 tt .long [.long ((0 : Int64) + (1 : Int64)), .long ((0 : Int64) + (1 : Int64)), .long (0 : Int64), .long (0 : Int64)] at A_tt
    refine Wk.aloadN X d1_88 89 rfl rfl rfl ?_
    refine Wk.iload X d1_89 91 rfl rfl ?_
    refine Wk.laload X A_u 2 rfl rfl d1_91 92 rfl ?_
    refine Wk.lconst X d1_92 93 rfl (0 : Int64) rfl ?_
    refine Wk.lcmp X d1_93 94 rfl ?_
    refine Wk.topI (1 : Int32) (by decide) ?_
    refine Wk.ifcF X d1_94 97 rfl (show (0 : Int32) < (1 : Int32) from (by decide)) ?_
    refine Wk.aloadN X d1_97 98 rfl rfl rfl ?_
    refine Wk.getfield X (t24 hw) Via.refl F_typ d1_98 101 rfl ?_
    intro T X
    refine Wk.iload X d1_101 103 rfl rfl ?_
    refine Wk.dup2 X d1_103 104 rfl rfl rfl ?_
    refine Wk.iaload X A_yy 1 rfl rfl d1_104 105 rfl ?_
    refine Wk.iconst X d1_105 106 rfl (1 : Int32) rfl ?_
    refine Wk.iadd X d1_106 107 rfl ?_
    refine Wk.topI (1 : Int32) (by decide) ?_
    refine Wk.iastore X A_yy nn_yy 1 rfl (Nat.le_of_ble_eq_true rfl) d1_107 108 rfl ?_
    intro T h12 X W12
    have A_u := A_u.other W12 ne_uyy
    have A_f := A_f.other W12 ne_fyy
    have K := K.wr W12 (Or.inr ge_yy)
    have F_cps := Fld.other W12 F_cps (Or.inl ne_yy)
    have F_fc := Fld.other W12 F_fc (Or.inl ne_yy)
    have A_tt := A_tt.other W12 ne_ttyy
    have F_tot := Fld.other W12 F_tot (Or.inl ne_yy)
    have F_typ := Fld.other W12 F_typ (Or.inl ne_yy)
    have A_yy := A_yy.set W12
    change Arl Z h12 yy .int [.int (1 : Int32), .int (1 : Int32), .int (0 : Int32), .int (0 : Int32)] at A_yy
    refine Wk.iinc X d1_108 111 rfl #[.val (.ref a1), .val (.int od), .val (.ref r), .val (.ref u), .val (.ref f), .val (.int (4 : Int32)), .val (.int (1 : Int32)), .val (.int (3 : Int32))] rfl rfl ?_
    refine Wk.goto X d1_111 62 (by decide) ?_
    refine Wk.iload X d1_62 64 rfl rfl ?_
    refine Wk.aload X d1_64 66 rfl rfl rfl ?_
    refine Wk.iload X d1_66 68 rfl rfl ?_
    refine Wk.iconst X d1_68 69 rfl (1 : Int32) rfl ?_
    refine Wk.iadd X d1_69 70 rfl ?_
    refine Wk.topI (2 : Int32) (by decide) ?_
    refine Wk.iaload X A_f 2 rfl rfl d1_70 71 rfl ?_
    refine Wk.icmpF X d1_71 74 rfl (show (3 : Int32) < (4 : Int32) from (by decide)) ?_
    refine Wk.aloadN X d1_74 75 rfl rfl rfl ?_
    refine Wk.getfield X (t22 hw) Via.refl F_tot d1_75 78 rfl ?_
    intro T X
    refine Wk.iload X d1_78 80 rfl rfl ?_
    refine Wk.dup2 X d1_80 81 rfl rfl rfl ?_
    refine Wk.laload X A_tt 1 rfl rfl d1_81 82 rfl ?_
    refine Wk.aloadN X d1_82 83 rfl rfl rfl ?_
    refine Wk.iload X d1_83 85 rfl rfl ?_
    refine Wk.laload X A_u 3 rfl rfl d1_85 86 rfl ?_
    refine Wk.ladd X d1_86 87 rfl ?_
    refine Wk.lastore X A_tt nn_tt 1 rfl (Nat.le_of_ble_eq_true rfl) d1_87 88 rfl ?_
    intro T h13 X W13
    have A_u := A_u.other W13 ne_utt
    have A_f := A_f.other W13 ne_ftt
    have K := K.wr W13 (Or.inr ge_tt)
    have F_cps := Fld.other W13 F_cps (Or.inl ne_tt)
    have F_fc := Fld.other W13 F_fc (Or.inl ne_tt)
    have F_tot := Fld.other W13 F_tot (Or.inl ne_tt)
    have A_yy := A_yy.other W13 (Ne.symm ne_ttyy)
    have F_typ := Fld.other W13 F_typ (Or.inl ne_tt)
    have A_tt := A_tt.set W13
    change Arl Z h13 tt .long [.long ((0 : Int64) + (1 : Int64)), .long (((0 : Int64) + (1 : Int64)) + (1 : Int64)), .long (0 : Int64), .long (0 : Int64)] at A_tt
    refine Wk.aloadN X d1_88 89 rfl rfl rfl ?_
    refine Wk.iload X d1_89 91 rfl rfl ?_
    refine Wk.laload X A_u 3 rfl rfl d1_91 92 rfl ?_
    refine Wk.lconst X d1_92 93 rfl (0 : Int64) rfl ?_
    refine Wk.lcmp X d1_93 94 rfl ?_
    refine Wk.topI (1 : Int32) (by decide) ?_
    refine Wk.ifcF X d1_94 97 rfl (show (0 : Int32) < (1 : Int32) from (by decide)) ?_
    refine Wk.aloadN X d1_97 98 rfl rfl rfl ?_
    refine Wk.getfield X (t24 hw) Via.refl F_typ d1_98 101 rfl ?_
    intro T X
    refine Wk.iload X d1_101 103 rfl rfl ?_
    refine Wk.dup2 X d1_103 104 rfl rfl rfl ?_
    refine Wk.iaload X A_yy 1 rfl rfl d1_104 105 rfl ?_
    refine Wk.iconst X d1_105 106 rfl (1 : Int32) rfl ?_
    refine Wk.iadd X d1_106 107 rfl ?_
    refine Wk.topI (2 : Int32) (by decide) ?_
    refine Wk.iastore X A_yy nn_yy 1 rfl (Nat.le_of_ble_eq_true rfl) d1_107 108 rfl ?_
    intro T h14 X W14
    have A_u := A_u.other W14 ne_uyy
    have A_f := A_f.other W14 ne_fyy
    have K := K.wr W14 (Or.inr ge_yy)
    have F_cps := Fld.other W14 F_cps (Or.inl ne_yy)
    have F_fc := Fld.other W14 F_fc (Or.inl ne_yy)
    have A_tt := A_tt.other W14 ne_ttyy
    have F_tot := Fld.other W14 F_tot (Or.inl ne_yy)
    have F_typ := Fld.other W14 F_typ (Or.inl ne_yy)
    have A_yy := A_yy.set W14
    change Arl Z h14 yy .int [.int (1 : Int32), .int (2 : Int32), .int (0 : Int32), .int (0 : Int32)] at A_yy
    refine Wk.iinc X d1_108 111 rfl #[.val (.ref a1), .val (.int od), .val (.ref r), .val (.ref u), .val (.ref f), .val (.int (4 : Int32)), .val (.int (1 : Int32)), .val (.int (4 : Int32))] rfl rfl ?_
    refine Wk.goto X d1_111 62 (by decide) ?_
    refine Wk.iload X d1_62 64 rfl rfl ?_
    refine Wk.aload X d1_64 66 rfl rfl rfl ?_
    refine Wk.iload X d1_66 68 rfl rfl ?_
    refine Wk.iconst X d1_68 69 rfl (1 : Int32) rfl ?_
    refine Wk.iadd X d1_69 70 rfl ?_
    refine Wk.topI (2 : Int32) (by decide) ?_
    refine Wk.iaload X A_f 2 rfl rfl d1_70 71 rfl ?_
    refine Wk.icmpT X d1_71 114 (by decide) (show ¬ (4 : Int32) < (4 : Int32) from (by decide)) ?_
    refine Wk.iinc X d1_114 117 rfl #[.val (.ref a1), .val (.int od), .val (.ref r), .val (.ref u), .val (.ref f), .val (.int (4 : Int32)), .val (.int (2 : Int32)), .val (.int (4 : Int32))] rfl rfl ?_
    refine Wk.goto X d1_117 48 (by decide) ?_
    refine Wk.iload X d1_48 50 rfl rfl ?_
    refine Wk.iload X d1_50 52 rfl rfl ?_
    refine Wk.icmpF X d1_52 55 rfl (show (2 : Int32) < (4 : Int32) from (by decide)) ?_
    refine Wk.aload X d1_55 57 rfl rfl rfl ?_
    refine Wk.iload X d1_57 59 rfl rfl ?_
    refine Wk.iaload X A_f 2 rfl rfl d1_59 60 rfl ?_
    refine Wk.istore X d1_60 62 rfl #[.val (.ref a1), .val (.int od), .val (.ref r), .val (.ref u), .val (.ref f), .val (.int (4 : Int32)), .val (.int (2 : Int32)), .val (.int (4 : Int32))] rfl ?_
    refine Wk.iload X d1_62 64 rfl rfl ?_
    refine Wk.aload X d1_64 66 rfl rfl rfl ?_
    refine Wk.iload X d1_66 68 rfl rfl ?_
    refine Wk.iconst X d1_68 69 rfl (1 : Int32) rfl ?_
    refine Wk.iadd X d1_69 70 rfl ?_
    refine Wk.topI (3 : Int32) (by decide) ?_
    refine Wk.iaload X A_f 3 rfl rfl d1_70 71 rfl ?_
    refine Wk.icmpT X d1_71 114 (by decide) (show ¬ (4 : Int32) < (4 : Int32) from (by decide)) ?_
    refine Wk.iinc X d1_114 117 rfl #[.val (.ref a1), .val (.int od), .val (.ref r), .val (.ref u), .val (.ref f), .val (.int (4 : Int32)), .val (.int (3 : Int32)), .val (.int (4 : Int32))] rfl rfl ?_
    refine Wk.goto X d1_117 48 (by decide) ?_
    refine Wk.iload X d1_48 50 rfl rfl ?_
    refine Wk.iload X d1_50 52 rfl rfl ?_
    refine Wk.icmpF X d1_52 55 rfl (show (3 : Int32) < (4 : Int32) from (by decide)) ?_
    refine Wk.aload X d1_55 57 rfl rfl rfl ?_
    refine Wk.iload X d1_57 59 rfl rfl ?_
    refine Wk.iaload X A_f 3 rfl rfl d1_59 60 rfl ?_
    refine Wk.istore X d1_60 62 rfl #[.val (.ref a1), .val (.int od), .val (.ref r), .val (.ref u), .val (.ref f), .val (.int (4 : Int32)), .val (.int (3 : Int32)), .val (.int (4 : Int32))] rfl ?_
    refine Wk.iload X d1_62 64 rfl rfl ?_
    refine Wk.aload X d1_64 66 rfl rfl rfl ?_
    refine Wk.iload X d1_66 68 rfl rfl ?_
    refine Wk.iconst X d1_68 69 rfl (1 : Int32) rfl ?_
    refine Wk.iadd X d1_69 70 rfl ?_
    refine Wk.topI (4 : Int32) (by decide) ?_
    refine Wk.iaload X A_f 4 rfl rfl d1_70 71 rfl ?_
    refine Wk.icmpT X d1_71 114 (by decide) (show ¬ (4 : Int32) < (4 : Int32) from (by decide)) ?_
    refine Wk.iinc X d1_114 117 rfl #[.val (.ref a1), .val (.int od), .val (.ref r), .val (.ref u), .val (.ref f), .val (.int (4 : Int32)), .val (.int (4 : Int32)), .val (.int (4 : Int32))] rfl rfl ?_
    refine Wk.goto X d1_117 48 (by decide) ?_
    refine Wk.iload X d1_48 50 rfl rfl ?_
    refine Wk.iload X d1_50 52 rfl rfl ?_
    refine Wk.icmpT X d1_52 120 (by decide) (show ¬ (4 : Int32) < (4 : Int32) from (by decide)) ?_
    exact Wk.vreturn X d1_120 (by decide) (by decide) ⟨rfl, K, F_cps, F_fc⟩
  · change Arl Z h0 f .int [.int (1 : Int32), .int (3 : Int32), .int (4 : Int32), .int (4 : Int32), .int (4 : Int32)] at A_f
    have K := Keep.refl h0 [a1]
    refine Wk.aloadN X d1_0 1 rfl rfl rfl ?_
    refine Wk.initO X (t11 hw) (t12 hw) (t13 hw) rfl d1_1 4 rfl (by decide) 0 (Nat.le_of_eq rfl) (by decide) ?_
    intro T X
    refine Wk.aloadN X d1_4 5 rfl rfl rfl ?_
    refine Wk.iloadN X d1_5 6 rfl rfl ?_
    refine Wk.putF X (t14 hw) Via.refl E N (Or.inr ⟨(t15 hw), rfl, nm⟩) (t6 hw) (ty := .int) (by decide) rfl rfl hn d1_6 9 rfl ?_
    intro T h1 X W1 F_od_new
    have E := Exa.wr W1 E
    have N := N.wr W1
    have A_r := A_r.other W1 ne_r
    have A_u := A_u.other W1 ne_u
    have A_f := A_f.other W1 ne_f
    have K := K.wr W1 (Or.inl (List.mem_singleton.mpr rfl))
    refine Wk.aloadN X d1_9 10 rfl rfl rfl ?_
    refine Wk.aloadN X d1_10 11 rfl rfl rfl ?_
    refine Wk.putF X (t16 hw) Via.refl E N (Or.inr ⟨(t17 hw), rfl, nm⟩) (t6 hw) (ty := (.array .int)) (by decide) rfl rfl hn d1_11 14 rfl ?_
    intro T h2 X W2 F_cps_new
    have E := Exa.wr W2 E
    have N := N.wr W2
    have A_r := A_r.other W2 ne_r
    have A_u := A_u.other W2 ne_u
    have A_f := A_f.other W2 ne_f
    have K := K.wr W2 (Or.inl (List.mem_singleton.mpr rfl))
    have F_cps := F_cps_new
    refine Wk.aloadN X d1_14 15 rfl rfl rfl ?_
    refine Wk.aloadN X d1_15 16 rfl rfl rfl ?_
    refine Wk.putF X (t18 hw) Via.refl E N (Or.inr ⟨(t19 hw), rfl, nm⟩) (t6 hw) (ty := (.array .long)) (by decide) rfl rfl hn d1_16 19 rfl ?_
    intro T h3 X W3 F_cnt_new
    have E := Exa.wr W3 E
    have N := N.wr W3
    have A_r := A_r.other W3 ne_r
    have A_u := A_u.other W3 ne_u
    have A_f := A_f.other W3 ne_f
    have K := K.wr W3 (Or.inl (List.mem_singleton.mpr rfl))
    have F_cps := Fld.other W3 F_cps (Or.inr (slot_ne (Or.inr (t17 hw)) (Or.inr (t19 hw)) (by decide) (t := (.array .int)) (t' := (.array .long)) (by decide) (by decide)))
    refine Wk.aloadN X d1_19 20 rfl rfl rfl ?_
    refine Wk.aload X d1_20 22 rfl rfl rfl ?_
    refine Wk.putF X (t20 hw) Via.refl E N (Or.inr ⟨(t21 hw), rfl, nm⟩) (t6 hw) (ty := (.array .int)) (by decide) rfl rfl hn d1_22 25 rfl ?_
    intro T h4 X W4 F_fc_new
    have E := Exa.wr W4 E
    have N := N.wr W4
    have A_r := A_r.other W4 ne_r
    have A_u := A_u.other W4 ne_u
    have A_f := A_f.other W4 ne_f
    have K := K.wr W4 (Or.inl (List.mem_singleton.mpr rfl))
    have F_cps := Fld.other W4 F_cps (Or.inr (slot_ne (Or.inr (t17 hw)) (Or.inr (t21 hw)) (by decide) (t := (.array .int)) (t' := (.array .int)) (by decide) (by decide)))
    have F_fc := F_fc_new
    refine Wk.aloadN X d1_25 26 rfl rfl rfl ?_
    refine Wk.arraylength X A_r d1_26 27 rfl (4 : Int32) rfl ?_
    refine Wk.istore X d1_27 29 rfl #[.val (.ref a1), .val (.int od), .val (.ref r), .val (.ref u), .val (.ref f), .val (.int (4 : Int32)), .unset, .unset] rfl ?_
    refine Wk.aloadN X d1_29 30 rfl rfl rfl ?_
    refine Wk.iload X d1_30 32 rfl rfl ?_
    refine Wk.newarray (aty := .long) X (t4 hw) d1_32 34 rfl 4 rfl 4 (Nat.le_refl _) (by decide) (by decide) (by decide) ?_
    intro T h5 tt gtt X E5 A_tt
    have ne_tt : a1 ≠ tt := ne_new (Exa.lt E) gtt
    have ne_utt : u ≠ tt := ne_new A_u.lt gtt
    have ne_ftt : f ≠ tt := ne_new A_f.lt gtt
    have ge_tt : h0.size ≤ tt := by have := K.1; omega
    have nn_tt : n0 ≤ tt := nn_new hn (Exa.lt E) gtt
    have E := Exa.ext E5 E
    have N := N.ext E5
    have A_u := A_u.ext E5
    have A_f := A_f.ext E5
    have K := K.ext E5
    have F_cps := Fld.ext E5 F_cps
    have F_fc := Fld.ext E5 F_fc
    change Arl Z h5 tt .long [.long 0, .long 0, .long 0, .long 0] at A_tt
    refine Wk.putF X (t22 hw) Via.refl E N (Or.inr ⟨(t23 hw), rfl, nm⟩) (t6 hw) (ty := (.array .long)) (by decide) rfl rfl hn d1_34 37 rfl ?_
    intro T h6 X W6 F_tot_new
    have E := Exa.wr W6 E
    have N := N.wr W6
    have A_u := A_u.other W6 ne_u
    have A_f := A_f.other W6 ne_f
    have K := K.wr W6 (Or.inl (List.mem_singleton.mpr rfl))
    have F_cps := Fld.other W6 F_cps (Or.inr (slot_ne (Or.inr (t17 hw)) (Or.inr (t23 hw)) (by decide) (t := (.array .int)) (t' := (.array .long)) (by decide) (by decide)))
    have F_fc := Fld.other W6 F_fc (Or.inr (slot_ne (Or.inr (t21 hw)) (Or.inr (t23 hw)) (by decide) (t := (.array .int)) (t' := (.array .long)) (by decide) (by decide)))
    have A_tt := A_tt.other W6 (Ne.symm ne_tt)
    have F_tot := F_tot_new
    refine Wk.aloadN X d1_37 38 rfl rfl rfl ?_
    refine Wk.iload X d1_38 40 rfl rfl ?_
    refine Wk.newarray (aty := .int) X (t2 hw) d1_40 42 rfl 4 rfl 4 (Nat.le_refl _) (by decide) (by decide) (by decide) ?_
    intro T h7 yy gyy X E7 A_yy
    have ne_yy : a1 ≠ yy := ne_new (Exa.lt E) gyy
    have ne_uyy : u ≠ yy := ne_new A_u.lt gyy
    have ne_fyy : f ≠ yy := ne_new A_f.lt gyy
    have ne_ttyy : tt ≠ yy := ne_new A_tt.lt gyy
    have ge_yy : h0.size ≤ yy := by have := K.1; omega
    have nn_yy : n0 ≤ yy := nn_new hn (Exa.lt E) gyy
    have E := Exa.ext E7 E
    have N := N.ext E7
    have A_u := A_u.ext E7
    have A_f := A_f.ext E7
    have K := K.ext E7
    have F_cps := Fld.ext E7 F_cps
    have F_fc := Fld.ext E7 F_fc
    have A_tt := A_tt.ext E7
    have F_tot := Fld.ext E7 F_tot
    change Arl Z h7 yy .int [.int 0, .int 0, .int 0, .int 0] at A_yy
    refine Wk.putF X (t24 hw) Via.refl E N (Or.inr ⟨(t25 hw), rfl, nm⟩) (t6 hw) (ty := (.array .int)) (by decide) rfl rfl hn d1_42 45 rfl ?_
    intro T h8 X W8 F_typ_new
    have E := Exa.wr W8 E
    have N := N.wr W8
    have A_u := A_u.other W8 ne_u
    have A_f := A_f.other W8 ne_f
    have K := K.wr W8 (Or.inl (List.mem_singleton.mpr rfl))
    have F_cps := Fld.other W8 F_cps (Or.inr (slot_ne (Or.inr (t17 hw)) (Or.inr (t25 hw)) (by decide) (t := (.array .int)) (t' := (.array .int)) (by decide) (by decide)))
    have F_fc := Fld.other W8 F_fc (Or.inr (slot_ne (Or.inr (t21 hw)) (Or.inr (t25 hw)) (by decide) (t := (.array .int)) (t' := (.array .int)) (by decide) (by decide)))
    have A_tt := A_tt.other W8 (Ne.symm ne_tt)
    have F_tot := Fld.other W8 F_tot (Or.inr (slot_ne (Or.inr (t23 hw)) (Or.inr (t25 hw)) (by decide) (t := (.array .long)) (t' := (.array .int)) (by decide) (by decide)))
    have A_yy := A_yy.other W8 (Ne.symm ne_yy)
    have F_typ := F_typ_new
    refine Wk.iconst X d1_45 46 rfl (0 : Int32) rfl ?_
    refine Wk.istore X d1_46 48 rfl #[.val (.ref a1), .val (.int od), .val (.ref r), .val (.ref u), .val (.ref f), .val (.int (4 : Int32)), .val (.int (0 : Int32)), .unset] rfl ?_
    refine Wk.iload X d1_48 50 rfl rfl ?_
    refine Wk.iload X d1_50 52 rfl rfl ?_
    refine Wk.icmpF X d1_52 55 rfl (show (0 : Int32) < (4 : Int32) from (by decide)) ?_
    refine Wk.aload X d1_55 57 rfl rfl rfl ?_
    refine Wk.iload X d1_57 59 rfl rfl ?_
    refine Wk.iaload X A_f 0 rfl rfl d1_59 60 rfl ?_
    refine Wk.istore X d1_60 62 rfl #[.val (.ref a1), .val (.int od), .val (.ref r), .val (.ref u), .val (.ref f), .val (.int (4 : Int32)), .val (.int (0 : Int32)), .val (.int (1 : Int32))] rfl ?_
    refine Wk.iload X d1_62 64 rfl rfl ?_
    refine Wk.aload X d1_64 66 rfl rfl rfl ?_
    refine Wk.iload X d1_66 68 rfl rfl ?_
    refine Wk.iconst X d1_68 69 rfl (1 : Int32) rfl ?_
    refine Wk.iadd X d1_69 70 rfl ?_
    refine Wk.topI (1 : Int32) (by decide) ?_
    refine Wk.iaload X A_f 1 rfl rfl d1_70 71 rfl ?_
    refine Wk.icmpF X d1_71 74 rfl (show (1 : Int32) < (3 : Int32) from (by decide)) ?_
    refine Wk.aloadN X d1_74 75 rfl rfl rfl ?_
    refine Wk.getfield X (t22 hw) Via.refl F_tot d1_75 78 rfl ?_
    intro T X
    refine Wk.iload X d1_78 80 rfl rfl ?_
    refine Wk.dup2 X d1_80 81 rfl rfl rfl ?_
    refine Wk.laload X A_tt 0 rfl rfl d1_81 82 rfl ?_
    refine Wk.aloadN X d1_82 83 rfl rfl rfl ?_
    refine Wk.iload X d1_83 85 rfl rfl ?_
    refine Wk.laload X A_u 1 rfl rfl d1_85 86 rfl ?_
    refine Wk.ladd X d1_86 87 rfl ?_
    refine Wk.lastore X A_tt nn_tt 0 rfl (Nat.le_of_ble_eq_true rfl) d1_87 88 rfl ?_
    intro T h9 X W9
    have A_u := A_u.other W9 ne_utt
    have A_f := A_f.other W9 ne_ftt
    have K := K.wr W9 (Or.inr ge_tt)
    have F_cps := Fld.other W9 F_cps (Or.inl ne_tt)
    have F_fc := Fld.other W9 F_fc (Or.inl ne_tt)
    have F_tot := Fld.other W9 F_tot (Or.inl ne_tt)
    have A_yy := A_yy.other W9 (Ne.symm ne_ttyy)
    have F_typ := Fld.other W9 F_typ (Or.inl ne_tt)
    have A_tt := A_tt.set W9
    change Arl Z h9 tt .long [.long ((0 : Int64) + (1 : Int64)), .long (0 : Int64), .long (0 : Int64), .long (0 : Int64)] at A_tt
    refine Wk.aloadN X d1_88 89 rfl rfl rfl ?_
    refine Wk.iload X d1_89 91 rfl rfl ?_
    refine Wk.laload X A_u 1 rfl rfl d1_91 92 rfl ?_
    refine Wk.lconst X d1_92 93 rfl (0 : Int64) rfl ?_
    refine Wk.lcmp X d1_93 94 rfl ?_
    refine Wk.topI (1 : Int32) (by decide) ?_
    refine Wk.ifcF X d1_94 97 rfl (show (0 : Int32) < (1 : Int32) from (by decide)) ?_
    refine Wk.aloadN X d1_97 98 rfl rfl rfl ?_
    refine Wk.getfield X (t24 hw) Via.refl F_typ d1_98 101 rfl ?_
    intro T X
    refine Wk.iload X d1_101 103 rfl rfl ?_
    refine Wk.dup2 X d1_103 104 rfl rfl rfl ?_
    refine Wk.iaload X A_yy 0 rfl rfl d1_104 105 rfl ?_
    refine Wk.iconst X d1_105 106 rfl (1 : Int32) rfl ?_
    refine Wk.iadd X d1_106 107 rfl ?_
    refine Wk.topI (1 : Int32) (by decide) ?_
    refine Wk.iastore X A_yy nn_yy 0 rfl (Nat.le_of_ble_eq_true rfl) d1_107 108 rfl ?_
    intro T h10 X W10
    have A_u := A_u.other W10 ne_uyy
    have A_f := A_f.other W10 ne_fyy
    have K := K.wr W10 (Or.inr ge_yy)
    have F_cps := Fld.other W10 F_cps (Or.inl ne_yy)
    have F_fc := Fld.other W10 F_fc (Or.inl ne_yy)
    have A_tt := A_tt.other W10 ne_ttyy
    have F_tot := Fld.other W10 F_tot (Or.inl ne_yy)
    have F_typ := Fld.other W10 F_typ (Or.inl ne_yy)
    have A_yy := A_yy.set W10
    change Arl Z h10 yy .int [.int (1 : Int32), .int (0 : Int32), .int (0 : Int32), .int (0 : Int32)] at A_yy
    refine Wk.iinc X d1_108 111 rfl #[.val (.ref a1), .val (.int od), .val (.ref r), .val (.ref u), .val (.ref f), .val (.int (4 : Int32)), .val (.int (0 : Int32)), .val (.int (2 : Int32))] rfl rfl ?_
    refine Wk.goto X d1_111 62 (by decide) ?_
    refine Wk.iload X d1_62 64 rfl rfl ?_
    refine Wk.aload X d1_64 66 rfl rfl rfl ?_
    refine Wk.iload X d1_66 68 rfl rfl ?_
    refine Wk.iconst X d1_68 69 rfl (1 : Int32) rfl ?_
    refine Wk.iadd X d1_69 70 rfl ?_
    refine Wk.topI (1 : Int32) (by decide) ?_
    refine Wk.iaload X A_f 1 rfl rfl d1_70 71 rfl ?_
    refine Wk.icmpF X d1_71 74 rfl (show (2 : Int32) < (3 : Int32) from (by decide)) ?_
    refine Wk.aloadN X d1_74 75 rfl rfl rfl ?_
    refine Wk.getfield X (t22 hw) Via.refl F_tot d1_75 78 rfl ?_
    intro T X
    refine Wk.iload X d1_78 80 rfl rfl ?_
    refine Wk.dup2 X d1_80 81 rfl rfl rfl ?_
    refine Wk.laload X A_tt 0 rfl rfl d1_81 82 rfl ?_
    refine Wk.aloadN X d1_82 83 rfl rfl rfl ?_
    refine Wk.iload X d1_83 85 rfl rfl ?_
    refine Wk.laload X A_u 2 rfl rfl d1_85 86 rfl ?_
    refine Wk.ladd X d1_86 87 rfl ?_
    refine Wk.lastore X A_tt nn_tt 0 rfl (Nat.le_of_ble_eq_true rfl) d1_87 88 rfl ?_
    intro T h11 X W11
    have A_u := A_u.other W11 ne_utt
    have A_f := A_f.other W11 ne_ftt
    have K := K.wr W11 (Or.inr ge_tt)
    have F_cps := Fld.other W11 F_cps (Or.inl ne_tt)
    have F_fc := Fld.other W11 F_fc (Or.inl ne_tt)
    have F_tot := Fld.other W11 F_tot (Or.inl ne_tt)
    have A_yy := A_yy.other W11 (Ne.symm ne_ttyy)
    have F_typ := Fld.other W11 F_typ (Or.inl ne_tt)
    have A_tt := A_tt.set W11
    change Arl Z h11 tt .long [.long (((0 : Int64) + (1 : Int64)) + (1 : Int64)), .long (0 : Int64), .long (0 : Int64), .long (0 : Int64)] at A_tt
    refine Wk.aloadN X d1_88 89 rfl rfl rfl ?_
    refine Wk.iload X d1_89 91 rfl rfl ?_
    refine Wk.laload X A_u 2 rfl rfl d1_91 92 rfl ?_
    refine Wk.lconst X d1_92 93 rfl (0 : Int64) rfl ?_
    refine Wk.lcmp X d1_93 94 rfl ?_
    refine Wk.topI (1 : Int32) (by decide) ?_
    refine Wk.ifcF X d1_94 97 rfl (show (0 : Int32) < (1 : Int32) from (by decide)) ?_
    refine Wk.aloadN X d1_97 98 rfl rfl rfl ?_
    refine Wk.getfield X (t24 hw) Via.refl F_typ d1_98 101 rfl ?_
    intro T X
    refine Wk.iload X d1_101 103 rfl rfl ?_
    refine Wk.dup2 X d1_103 104 rfl rfl rfl ?_
    refine Wk.iaload X A_yy 0 rfl rfl d1_104 105 rfl ?_
    refine Wk.iconst X d1_105 106 rfl (1 : Int32) rfl ?_
    refine Wk.iadd X d1_106 107 rfl ?_
    refine Wk.topI (2 : Int32) (by decide) ?_
    refine Wk.iastore X A_yy nn_yy 0 rfl (Nat.le_of_ble_eq_true rfl) d1_107 108 rfl ?_
    intro T h12 X W12
    have A_u := A_u.other W12 ne_uyy
    have A_f := A_f.other W12 ne_fyy
    have K := K.wr W12 (Or.inr ge_yy)
    have F_cps := Fld.other W12 F_cps (Or.inl ne_yy)
    have F_fc := Fld.other W12 F_fc (Or.inl ne_yy)
    have A_tt := A_tt.other W12 ne_ttyy
    have F_tot := Fld.other W12 F_tot (Or.inl ne_yy)
    have F_typ := Fld.other W12 F_typ (Or.inl ne_yy)
    have A_yy := A_yy.set W12
    change Arl Z h12 yy .int [.int (2 : Int32), .int (0 : Int32), .int (0 : Int32), .int (0 : Int32)] at A_yy
    refine Wk.iinc X d1_108 111 rfl #[.val (.ref a1), .val (.int od), .val (.ref r), .val (.ref u), .val (.ref f), .val (.int (4 : Int32)), .val (.int (0 : Int32)), .val (.int (3 : Int32))] rfl rfl ?_
    refine Wk.goto X d1_111 62 (by decide) ?_
    refine Wk.iload X d1_62 64 rfl rfl ?_
    refine Wk.aload X d1_64 66 rfl rfl rfl ?_
    refine Wk.iload X d1_66 68 rfl rfl ?_
    refine Wk.iconst X d1_68 69 rfl (1 : Int32) rfl ?_
    refine Wk.iadd X d1_69 70 rfl ?_
    refine Wk.topI (1 : Int32) (by decide) ?_
    refine Wk.iaload X A_f 1 rfl rfl d1_70 71 rfl ?_
    refine Wk.icmpT X d1_71 114 (by decide) (show ¬ (3 : Int32) < (3 : Int32) from (by decide)) ?_
    refine Wk.iinc X d1_114 117 rfl #[.val (.ref a1), .val (.int od), .val (.ref r), .val (.ref u), .val (.ref f), .val (.int (4 : Int32)), .val (.int (1 : Int32)), .val (.int (3 : Int32))] rfl rfl ?_
    refine Wk.goto X d1_117 48 (by decide) ?_
    refine Wk.iload X d1_48 50 rfl rfl ?_
    refine Wk.iload X d1_50 52 rfl rfl ?_
    refine Wk.icmpF X d1_52 55 rfl (show (1 : Int32) < (4 : Int32) from (by decide)) ?_
    refine Wk.aload X d1_55 57 rfl rfl rfl ?_
    refine Wk.iload X d1_57 59 rfl rfl ?_
    refine Wk.iaload X A_f 1 rfl rfl d1_59 60 rfl ?_
    refine Wk.istore X d1_60 62 rfl #[.val (.ref a1), .val (.int od), .val (.ref r), .val (.ref u), .val (.ref f), .val (.int (4 : Int32)), .val (.int (1 : Int32)), .val (.int (3 : Int32))] rfl ?_
    refine Wk.iload X d1_62 64 rfl rfl ?_
    refine Wk.aload X d1_64 66 rfl rfl rfl ?_
    refine Wk.iload X d1_66 68 rfl rfl ?_
    refine Wk.iconst X d1_68 69 rfl (1 : Int32) rfl ?_
    refine Wk.iadd X d1_69 70 rfl ?_
    refine Wk.topI (2 : Int32) (by decide) ?_
    refine Wk.iaload X A_f 2 rfl rfl d1_70 71 rfl ?_
    refine Wk.icmpF X d1_71 74 rfl (show (3 : Int32) < (4 : Int32) from (by decide)) ?_
    refine Wk.aloadN X d1_74 75 rfl rfl rfl ?_
    refine Wk.getfield X (t22 hw) Via.refl F_tot d1_75 78 rfl ?_
    intro T X
    refine Wk.iload X d1_78 80 rfl rfl ?_
    refine Wk.dup2 X d1_80 81 rfl rfl rfl ?_
    refine Wk.laload X A_tt 1 rfl rfl d1_81 82 rfl ?_
    refine Wk.aloadN X d1_82 83 rfl rfl rfl ?_
    refine Wk.iload X d1_83 85 rfl rfl ?_
    refine Wk.laload X A_u 3 rfl rfl d1_85 86 rfl ?_
    refine Wk.ladd X d1_86 87 rfl ?_
    refine Wk.lastore X A_tt nn_tt 1 rfl (Nat.le_of_ble_eq_true rfl) d1_87 88 rfl ?_
    intro T h13 X W13
    have A_u := A_u.other W13 ne_utt
    have A_f := A_f.other W13 ne_ftt
    have K := K.wr W13 (Or.inr ge_tt)
    have F_cps := Fld.other W13 F_cps (Or.inl ne_tt)
    have F_fc := Fld.other W13 F_fc (Or.inl ne_tt)
    have F_tot := Fld.other W13 F_tot (Or.inl ne_tt)
    have A_yy := A_yy.other W13 (Ne.symm ne_ttyy)
    have F_typ := Fld.other W13 F_typ (Or.inl ne_tt)
    have A_tt := A_tt.set W13
    change Arl Z h13 tt .long [.long (((0 : Int64) + (1 : Int64)) + (1 : Int64)), .long ((0 : Int64) + (1 : Int64)), .long (0 : Int64), .long (0 : Int64)] at A_tt
    refine Wk.aloadN X d1_88 89 rfl rfl rfl ?_
    refine Wk.iload X d1_89 91 rfl rfl ?_
    refine Wk.laload X A_u 3 rfl rfl d1_91 92 rfl ?_
    refine Wk.lconst X d1_92 93 rfl (0 : Int64) rfl ?_
    refine Wk.lcmp X d1_93 94 rfl ?_
    refine Wk.topI (1 : Int32) (by decide) ?_
    refine Wk.ifcF X d1_94 97 rfl (show (0 : Int32) < (1 : Int32) from (by decide)) ?_
    refine Wk.aloadN X d1_97 98 rfl rfl rfl ?_
    refine Wk.getfield X (t24 hw) Via.refl F_typ d1_98 101 rfl ?_
    intro T X
    refine Wk.iload X d1_101 103 rfl rfl ?_
    refine Wk.dup2 X d1_103 104 rfl rfl rfl ?_
    refine Wk.iaload X A_yy 1 rfl rfl d1_104 105 rfl ?_
    refine Wk.iconst X d1_105 106 rfl (1 : Int32) rfl ?_
    refine Wk.iadd X d1_106 107 rfl ?_
    refine Wk.topI (1 : Int32) (by decide) ?_
    refine Wk.iastore X A_yy nn_yy 1 rfl (Nat.le_of_ble_eq_true rfl) d1_107 108 rfl ?_
    intro T h14 X W14
    have A_u := A_u.other W14 ne_uyy
    have A_f := A_f.other W14 ne_fyy
    have K := K.wr W14 (Or.inr ge_yy)
    have F_cps := Fld.other W14 F_cps (Or.inl ne_yy)
    have F_fc := Fld.other W14 F_fc (Or.inl ne_yy)
    have A_tt := A_tt.other W14 ne_ttyy
    have F_tot := Fld.other W14 F_tot (Or.inl ne_yy)
    have F_typ := Fld.other W14 F_typ (Or.inl ne_yy)
    have A_yy := A_yy.set W14
    change Arl Z h14 yy .int [.int (2 : Int32), .int (1 : Int32), .int (0 : Int32), .int (0 : Int32)] at A_yy
    refine Wk.iinc X d1_108 111 rfl #[.val (.ref a1), .val (.int od), .val (.ref r), .val (.ref u), .val (.ref f), .val (.int (4 : Int32)), .val (.int (1 : Int32)), .val (.int (4 : Int32))] rfl rfl ?_
    refine Wk.goto X d1_111 62 (by decide) ?_
    refine Wk.iload X d1_62 64 rfl rfl ?_
    refine Wk.aload X d1_64 66 rfl rfl rfl ?_
    refine Wk.iload X d1_66 68 rfl rfl ?_
    refine Wk.iconst X d1_68 69 rfl (1 : Int32) rfl ?_
    refine Wk.iadd X d1_69 70 rfl ?_
    refine Wk.topI (2 : Int32) (by decide) ?_
    refine Wk.iaload X A_f 2 rfl rfl d1_70 71 rfl ?_
    refine Wk.icmpT X d1_71 114 (by decide) (show ¬ (4 : Int32) < (4 : Int32) from (by decide)) ?_
    refine Wk.iinc X d1_114 117 rfl #[.val (.ref a1), .val (.int od), .val (.ref r), .val (.ref u), .val (.ref f), .val (.int (4 : Int32)), .val (.int (2 : Int32)), .val (.int (4 : Int32))] rfl rfl ?_
    refine Wk.goto X d1_117 48 (by decide) ?_
    refine Wk.iload X d1_48 50 rfl rfl ?_
    refine Wk.iload X d1_50 52 rfl rfl ?_
    refine Wk.icmpF X d1_52 55 rfl (show (2 : Int32) < (4 : Int32) from (by decide)) ?_
    refine Wk.aload X d1_55 57 rfl rfl rfl ?_
    refine Wk.iload X d1_57 59 rfl rfl ?_
    refine Wk.iaload X A_f 2 rfl rfl d1_59 60 rfl ?_
    refine Wk.istore X d1_60 62 rfl #[.val (.ref a1), .val (.int od), .val (.ref r), .val (.ref u), .val (.ref f), .val (.int (4 : Int32)), .val (.int (2 : Int32)), .val (.int (4 : Int32))] rfl ?_
    refine Wk.iload X d1_62 64 rfl rfl ?_
    refine Wk.aload X d1_64 66 rfl rfl rfl ?_
    refine Wk.iload X d1_66 68 rfl rfl ?_
    refine Wk.iconst X d1_68 69 rfl (1 : Int32) rfl ?_
    refine Wk.iadd X d1_69 70 rfl ?_
    refine Wk.topI (3 : Int32) (by decide) ?_
    refine Wk.iaload X A_f 3 rfl rfl d1_70 71 rfl ?_
    refine Wk.icmpT X d1_71 114 (by decide) (show ¬ (4 : Int32) < (4 : Int32) from (by decide)) ?_
    refine Wk.iinc X d1_114 117 rfl #[.val (.ref a1), .val (.int od), .val (.ref r), .val (.ref u), .val (.ref f), .val (.int (4 : Int32)), .val (.int (3 : Int32)), .val (.int (4 : Int32))] rfl rfl ?_
    refine Wk.goto X d1_117 48 (by decide) ?_
    refine Wk.iload X d1_48 50 rfl rfl ?_
    refine Wk.iload X d1_50 52 rfl rfl ?_
    refine Wk.icmpF X d1_52 55 rfl (show (3 : Int32) < (4 : Int32) from (by decide)) ?_
    refine Wk.aload X d1_55 57 rfl rfl rfl ?_
    refine Wk.iload X d1_57 59 rfl rfl ?_
    refine Wk.iaload X A_f 3 rfl rfl d1_59 60 rfl ?_
    refine Wk.istore X d1_60 62 rfl #[.val (.ref a1), .val (.int od), .val (.ref r), .val (.ref u), .val (.ref f), .val (.int (4 : Int32)), .val (.int (3 : Int32)), .val (.int (4 : Int32))] rfl ?_
    refine Wk.iload X d1_62 64 rfl rfl ?_
    refine Wk.aload X d1_64 66 rfl rfl rfl ?_
    refine Wk.iload X d1_66 68 rfl rfl ?_
    refine Wk.iconst X d1_68 69 rfl (1 : Int32) rfl ?_
    refine Wk.iadd X d1_69 70 rfl ?_
    refine Wk.topI (4 : Int32) (by decide) ?_
    refine Wk.iaload X A_f 4 rfl rfl d1_70 71 rfl ?_
    refine Wk.icmpT X d1_71 114 (by decide) (show ¬ (4 : Int32) < (4 : Int32) from (by decide)) ?_
    refine Wk.iinc X d1_114 117 rfl #[.val (.ref a1), .val (.int od), .val (.ref r), .val (.ref u), .val (.ref f), .val (.int (4 : Int32)), .val (.int (4 : Int32)), .val (.int (4 : Int32))] rfl rfl ?_
    refine Wk.goto X d1_117 48 (by decide) ?_
    refine Wk.iload X d1_48 50 rfl rfl ?_
    refine Wk.iload X d1_50 52 rfl rfl ?_
    refine Wk.icmpT X d1_52 120 (by decide) (show ¬ (4 : Int32) < (4 : Int32) from (by decide)) ?_
    exact Wk.vreturn X d1_120 (by decide) (by decide) ⟨rfl, K, F_cps, F_fc⟩
  · change Arl Z h0 f .int [.int (1 : Int32), .int (4 : Int32), .int (4 : Int32), .int (4 : Int32), .int (4 : Int32)] at A_f
    have K := Keep.refl h0 [a1]
    refine Wk.aloadN X d1_0 1 rfl rfl rfl ?_
    refine Wk.initO X (t11 hw) (t12 hw) (t13 hw) rfl d1_1 4 rfl (by decide) 0 (Nat.le_of_eq rfl) (by decide) ?_
    intro T X
    refine Wk.aloadN X d1_4 5 rfl rfl rfl ?_
    refine Wk.iloadN X d1_5 6 rfl rfl ?_
    refine Wk.putF X (t14 hw) Via.refl E N (Or.inr ⟨(t15 hw), rfl, nm⟩) (t6 hw) (ty := .int) (by decide) rfl rfl hn d1_6 9 rfl ?_
    intro T h1 X W1 F_od_new
    have E := Exa.wr W1 E
    have N := N.wr W1
    have A_r := A_r.other W1 ne_r
    have A_u := A_u.other W1 ne_u
    have A_f := A_f.other W1 ne_f
    have K := K.wr W1 (Or.inl (List.mem_singleton.mpr rfl))
    refine Wk.aloadN X d1_9 10 rfl rfl rfl ?_
    refine Wk.aloadN X d1_10 11 rfl rfl rfl ?_
    refine Wk.putF X (t16 hw) Via.refl E N (Or.inr ⟨(t17 hw), rfl, nm⟩) (t6 hw) (ty := (.array .int)) (by decide) rfl rfl hn d1_11 14 rfl ?_
    intro T h2 X W2 F_cps_new
    have E := Exa.wr W2 E
    have N := N.wr W2
    have A_r := A_r.other W2 ne_r
    have A_u := A_u.other W2 ne_u
    have A_f := A_f.other W2 ne_f
    have K := K.wr W2 (Or.inl (List.mem_singleton.mpr rfl))
    have F_cps := F_cps_new
    refine Wk.aloadN X d1_14 15 rfl rfl rfl ?_
    refine Wk.aloadN X d1_15 16 rfl rfl rfl ?_
    refine Wk.putF X (t18 hw) Via.refl E N (Or.inr ⟨(t19 hw), rfl, nm⟩) (t6 hw) (ty := (.array .long)) (by decide) rfl rfl hn d1_16 19 rfl ?_
    intro T h3 X W3 F_cnt_new
    have E := Exa.wr W3 E
    have N := N.wr W3
    have A_r := A_r.other W3 ne_r
    have A_u := A_u.other W3 ne_u
    have A_f := A_f.other W3 ne_f
    have K := K.wr W3 (Or.inl (List.mem_singleton.mpr rfl))
    have F_cps := Fld.other W3 F_cps (Or.inr (slot_ne (Or.inr (t17 hw)) (Or.inr (t19 hw)) (by decide) (t := (.array .int)) (t' := (.array .long)) (by decide) (by decide)))
    refine Wk.aloadN X d1_19 20 rfl rfl rfl ?_
    refine Wk.aload X d1_20 22 rfl rfl rfl ?_
    refine Wk.putF X (t20 hw) Via.refl E N (Or.inr ⟨(t21 hw), rfl, nm⟩) (t6 hw) (ty := (.array .int)) (by decide) rfl rfl hn d1_22 25 rfl ?_
    intro T h4 X W4 F_fc_new
    have E := Exa.wr W4 E
    have N := N.wr W4
    have A_r := A_r.other W4 ne_r
    have A_u := A_u.other W4 ne_u
    have A_f := A_f.other W4 ne_f
    have K := K.wr W4 (Or.inl (List.mem_singleton.mpr rfl))
    have F_cps := Fld.other W4 F_cps (Or.inr (slot_ne (Or.inr (t17 hw)) (Or.inr (t21 hw)) (by decide) (t := (.array .int)) (t' := (.array .int)) (by decide) (by decide)))
    have F_fc := F_fc_new
    refine Wk.aloadN X d1_25 26 rfl rfl rfl ?_
    refine Wk.arraylength X A_r d1_26 27 rfl (4 : Int32) rfl ?_
    refine Wk.istore X d1_27 29 rfl #[.val (.ref a1), .val (.int od), .val (.ref r), .val (.ref u), .val (.ref f), .val (.int (4 : Int32)), .unset, .unset] rfl ?_
    refine Wk.aloadN X d1_29 30 rfl rfl rfl ?_
    refine Wk.iload X d1_30 32 rfl rfl ?_
    refine Wk.newarray (aty := .long) X (t4 hw) d1_32 34 rfl 4 rfl 4 (Nat.le_refl _) (by decide) (by decide) (by decide) ?_
    intro T h5 tt gtt X E5 A_tt
    have ne_tt : a1 ≠ tt := ne_new (Exa.lt E) gtt
    have ne_utt : u ≠ tt := ne_new A_u.lt gtt
    have ne_ftt : f ≠ tt := ne_new A_f.lt gtt
    have ge_tt : h0.size ≤ tt := by have := K.1; omega
    have nn_tt : n0 ≤ tt := nn_new hn (Exa.lt E) gtt
    have E := Exa.ext E5 E
    have N := N.ext E5
    have A_u := A_u.ext E5
    have A_f := A_f.ext E5
    have K := K.ext E5
    have F_cps := Fld.ext E5 F_cps
    have F_fc := Fld.ext E5 F_fc
    change Arl Z h5 tt .long [.long 0, .long 0, .long 0, .long 0] at A_tt
    refine Wk.putF X (t22 hw) Via.refl E N (Or.inr ⟨(t23 hw), rfl, nm⟩) (t6 hw) (ty := (.array .long)) (by decide) rfl rfl hn d1_34 37 rfl ?_
    intro T h6 X W6 F_tot_new
    have E := Exa.wr W6 E
    have N := N.wr W6
    have A_u := A_u.other W6 ne_u
    have A_f := A_f.other W6 ne_f
    have K := K.wr W6 (Or.inl (List.mem_singleton.mpr rfl))
    have F_cps := Fld.other W6 F_cps (Or.inr (slot_ne (Or.inr (t17 hw)) (Or.inr (t23 hw)) (by decide) (t := (.array .int)) (t' := (.array .long)) (by decide) (by decide)))
    have F_fc := Fld.other W6 F_fc (Or.inr (slot_ne (Or.inr (t21 hw)) (Or.inr (t23 hw)) (by decide) (t := (.array .int)) (t' := (.array .long)) (by decide) (by decide)))
    have A_tt := A_tt.other W6 (Ne.symm ne_tt)
    have F_tot := F_tot_new
    refine Wk.aloadN X d1_37 38 rfl rfl rfl ?_
    refine Wk.iload X d1_38 40 rfl rfl ?_
    refine Wk.newarray (aty := .int) X (t2 hw) d1_40 42 rfl 4 rfl 4 (Nat.le_refl _) (by decide) (by decide) (by decide) ?_
    intro T h7 yy gyy X E7 A_yy
    have ne_yy : a1 ≠ yy := ne_new (Exa.lt E) gyy
    have ne_uyy : u ≠ yy := ne_new A_u.lt gyy
    have ne_fyy : f ≠ yy := ne_new A_f.lt gyy
    have ne_ttyy : tt ≠ yy := ne_new A_tt.lt gyy
    have ge_yy : h0.size ≤ yy := by have := K.1; omega
    have nn_yy : n0 ≤ yy := nn_new hn (Exa.lt E) gyy
    have E := Exa.ext E7 E
    have N := N.ext E7
    have A_u := A_u.ext E7
    have A_f := A_f.ext E7
    have K := K.ext E7
    have F_cps := Fld.ext E7 F_cps
    have F_fc := Fld.ext E7 F_fc
    have A_tt := A_tt.ext E7
    have F_tot := Fld.ext E7 F_tot
    change Arl Z h7 yy .int [.int 0, .int 0, .int 0, .int 0] at A_yy
    refine Wk.putF X (t24 hw) Via.refl E N (Or.inr ⟨(t25 hw), rfl, nm⟩) (t6 hw) (ty := (.array .int)) (by decide) rfl rfl hn d1_42 45 rfl ?_
    intro T h8 X W8 F_typ_new
    have E := Exa.wr W8 E
    have N := N.wr W8
    have A_u := A_u.other W8 ne_u
    have A_f := A_f.other W8 ne_f
    have K := K.wr W8 (Or.inl (List.mem_singleton.mpr rfl))
    have F_cps := Fld.other W8 F_cps (Or.inr (slot_ne (Or.inr (t17 hw)) (Or.inr (t25 hw)) (by decide) (t := (.array .int)) (t' := (.array .int)) (by decide) (by decide)))
    have F_fc := Fld.other W8 F_fc (Or.inr (slot_ne (Or.inr (t21 hw)) (Or.inr (t25 hw)) (by decide) (t := (.array .int)) (t' := (.array .int)) (by decide) (by decide)))
    have A_tt := A_tt.other W8 (Ne.symm ne_tt)
    have F_tot := Fld.other W8 F_tot (Or.inr (slot_ne (Or.inr (t23 hw)) (Or.inr (t25 hw)) (by decide) (t := (.array .long)) (t' := (.array .int)) (by decide) (by decide)))
    have A_yy := A_yy.other W8 (Ne.symm ne_yy)
    have F_typ := F_typ_new
    refine Wk.iconst X d1_45 46 rfl (0 : Int32) rfl ?_
    refine Wk.istore X d1_46 48 rfl #[.val (.ref a1), .val (.int od), .val (.ref r), .val (.ref u), .val (.ref f), .val (.int (4 : Int32)), .val (.int (0 : Int32)), .unset] rfl ?_
    refine Wk.iload X d1_48 50 rfl rfl ?_
    refine Wk.iload X d1_50 52 rfl rfl ?_
    refine Wk.icmpF X d1_52 55 rfl (show (0 : Int32) < (4 : Int32) from (by decide)) ?_
    refine Wk.aload X d1_55 57 rfl rfl rfl ?_
    refine Wk.iload X d1_57 59 rfl rfl ?_
    refine Wk.iaload X A_f 0 rfl rfl d1_59 60 rfl ?_
    refine Wk.istore X d1_60 62 rfl #[.val (.ref a1), .val (.int od), .val (.ref r), .val (.ref u), .val (.ref f), .val (.int (4 : Int32)), .val (.int (0 : Int32)), .val (.int (1 : Int32))] rfl ?_
    refine Wk.iload X d1_62 64 rfl rfl ?_
    refine Wk.aload X d1_64 66 rfl rfl rfl ?_
    refine Wk.iload X d1_66 68 rfl rfl ?_
    refine Wk.iconst X d1_68 69 rfl (1 : Int32) rfl ?_
    refine Wk.iadd X d1_69 70 rfl ?_
    refine Wk.topI (1 : Int32) (by decide) ?_
    refine Wk.iaload X A_f 1 rfl rfl d1_70 71 rfl ?_
    refine Wk.icmpF X d1_71 74 rfl (show (1 : Int32) < (4 : Int32) from (by decide)) ?_
    refine Wk.aloadN X d1_74 75 rfl rfl rfl ?_
    refine Wk.getfield X (t22 hw) Via.refl F_tot d1_75 78 rfl ?_
    intro T X
    refine Wk.iload X d1_78 80 rfl rfl ?_
    refine Wk.dup2 X d1_80 81 rfl rfl rfl ?_
    refine Wk.laload X A_tt 0 rfl rfl d1_81 82 rfl ?_
    refine Wk.aloadN X d1_82 83 rfl rfl rfl ?_
    refine Wk.iload X d1_83 85 rfl rfl ?_
    refine Wk.laload X A_u 1 rfl rfl d1_85 86 rfl ?_
    refine Wk.ladd X d1_86 87 rfl ?_
    refine Wk.lastore X A_tt nn_tt 0 rfl (Nat.le_of_ble_eq_true rfl) d1_87 88 rfl ?_
    intro T h9 X W9
    have A_u := A_u.other W9 ne_utt
    have A_f := A_f.other W9 ne_ftt
    have K := K.wr W9 (Or.inr ge_tt)
    have F_cps := Fld.other W9 F_cps (Or.inl ne_tt)
    have F_fc := Fld.other W9 F_fc (Or.inl ne_tt)
    have F_tot := Fld.other W9 F_tot (Or.inl ne_tt)
    have A_yy := A_yy.other W9 (Ne.symm ne_ttyy)
    have F_typ := Fld.other W9 F_typ (Or.inl ne_tt)
    have A_tt := A_tt.set W9
    change Arl Z h9 tt .long [.long ((0 : Int64) + (1 : Int64)), .long (0 : Int64), .long (0 : Int64), .long (0 : Int64)] at A_tt
    refine Wk.aloadN X d1_88 89 rfl rfl rfl ?_
    refine Wk.iload X d1_89 91 rfl rfl ?_
    refine Wk.laload X A_u 1 rfl rfl d1_91 92 rfl ?_
    refine Wk.lconst X d1_92 93 rfl (0 : Int64) rfl ?_
    refine Wk.lcmp X d1_93 94 rfl ?_
    refine Wk.topI (1 : Int32) (by decide) ?_
    refine Wk.ifcF X d1_94 97 rfl (show (0 : Int32) < (1 : Int32) from (by decide)) ?_
    refine Wk.aloadN X d1_97 98 rfl rfl rfl ?_
    refine Wk.getfield X (t24 hw) Via.refl F_typ d1_98 101 rfl ?_
    intro T X
    refine Wk.iload X d1_101 103 rfl rfl ?_
    refine Wk.dup2 X d1_103 104 rfl rfl rfl ?_
    refine Wk.iaload X A_yy 0 rfl rfl d1_104 105 rfl ?_
    refine Wk.iconst X d1_105 106 rfl (1 : Int32) rfl ?_
    refine Wk.iadd X d1_106 107 rfl ?_
    refine Wk.topI (1 : Int32) (by decide) ?_
    refine Wk.iastore X A_yy nn_yy 0 rfl (Nat.le_of_ble_eq_true rfl) d1_107 108 rfl ?_
    intro T h10 X W10
    have A_u := A_u.other W10 ne_uyy
    have A_f := A_f.other W10 ne_fyy
    have K := K.wr W10 (Or.inr ge_yy)
    have F_cps := Fld.other W10 F_cps (Or.inl ne_yy)
    have F_fc := Fld.other W10 F_fc (Or.inl ne_yy)
    have A_tt := A_tt.other W10 ne_ttyy
    have F_tot := Fld.other W10 F_tot (Or.inl ne_yy)
    have F_typ := Fld.other W10 F_typ (Or.inl ne_yy)
    have A_yy := A_yy.set W10
    change Arl Z h10 yy .int [.int (1 : Int32), .int (0 : Int32), .int (0 : Int32), .int (0 : Int32)] at A_yy
    refine Wk.iinc X d1_108 111 rfl #[.val (.ref a1), .val (.int od), .val (.ref r), .val (.ref u), .val (.ref f), .val (.int (4 : Int32)), .val (.int (0 : Int32)), .val (.int (2 : Int32))] rfl rfl ?_
    refine Wk.goto X d1_111 62 (by decide) ?_
    refine Wk.iload X d1_62 64 rfl rfl ?_
    refine Wk.aload X d1_64 66 rfl rfl rfl ?_
    refine Wk.iload X d1_66 68 rfl rfl ?_
    refine Wk.iconst X d1_68 69 rfl (1 : Int32) rfl ?_
    refine Wk.iadd X d1_69 70 rfl ?_
    refine Wk.topI (1 : Int32) (by decide) ?_
    refine Wk.iaload X A_f 1 rfl rfl d1_70 71 rfl ?_
    refine Wk.icmpF X d1_71 74 rfl (show (2 : Int32) < (4 : Int32) from (by decide)) ?_
    refine Wk.aloadN X d1_74 75 rfl rfl rfl ?_
    refine Wk.getfield X (t22 hw) Via.refl F_tot d1_75 78 rfl ?_
    intro T X
    refine Wk.iload X d1_78 80 rfl rfl ?_
    refine Wk.dup2 X d1_80 81 rfl rfl rfl ?_
    refine Wk.laload X A_tt 0 rfl rfl d1_81 82 rfl ?_
    refine Wk.aloadN X d1_82 83 rfl rfl rfl ?_
    refine Wk.iload X d1_83 85 rfl rfl ?_
    refine Wk.laload X A_u 2 rfl rfl d1_85 86 rfl ?_
    refine Wk.ladd X d1_86 87 rfl ?_
    refine Wk.lastore X A_tt nn_tt 0 rfl (Nat.le_of_ble_eq_true rfl) d1_87 88 rfl ?_
    intro T h11 X W11
    have A_u := A_u.other W11 ne_utt
    have A_f := A_f.other W11 ne_ftt
    have K := K.wr W11 (Or.inr ge_tt)
    have F_cps := Fld.other W11 F_cps (Or.inl ne_tt)
    have F_fc := Fld.other W11 F_fc (Or.inl ne_tt)
    have F_tot := Fld.other W11 F_tot (Or.inl ne_tt)
    have A_yy := A_yy.other W11 (Ne.symm ne_ttyy)
    have F_typ := Fld.other W11 F_typ (Or.inl ne_tt)
    have A_tt := A_tt.set W11
    change Arl Z h11 tt .long [.long (((0 : Int64) + (1 : Int64)) + (1 : Int64)), .long (0 : Int64), .long (0 : Int64), .long (0 : Int64)] at A_tt
    refine Wk.aloadN X d1_88 89 rfl rfl rfl ?_
    refine Wk.iload X d1_89 91 rfl rfl ?_
    refine Wk.laload X A_u 2 rfl rfl d1_91 92 rfl ?_
    refine Wk.lconst X d1_92 93 rfl (0 : Int64) rfl ?_
    refine Wk.lcmp X d1_93 94 rfl ?_
    refine Wk.topI (1 : Int32) (by decide) ?_
    refine Wk.ifcF X d1_94 97 rfl (show (0 : Int32) < (1 : Int32) from (by decide)) ?_
    refine Wk.aloadN X d1_97 98 rfl rfl rfl ?_
    refine Wk.getfield X (t24 hw) Via.refl F_typ d1_98 101 rfl ?_
    intro T X
    refine Wk.iload X d1_101 103 rfl rfl ?_
    refine Wk.dup2 X d1_103 104 rfl rfl rfl ?_
    refine Wk.iaload X A_yy 0 rfl rfl d1_104 105 rfl ?_
    refine Wk.iconst X d1_105 106 rfl (1 : Int32) rfl ?_
    refine Wk.iadd X d1_106 107 rfl ?_
    refine Wk.topI (2 : Int32) (by decide) ?_
    refine Wk.iastore X A_yy nn_yy 0 rfl (Nat.le_of_ble_eq_true rfl) d1_107 108 rfl ?_
    intro T h12 X W12
    have A_u := A_u.other W12 ne_uyy
    have A_f := A_f.other W12 ne_fyy
    have K := K.wr W12 (Or.inr ge_yy)
    have F_cps := Fld.other W12 F_cps (Or.inl ne_yy)
    have F_fc := Fld.other W12 F_fc (Or.inl ne_yy)
    have A_tt := A_tt.other W12 ne_ttyy
    have F_tot := Fld.other W12 F_tot (Or.inl ne_yy)
    have F_typ := Fld.other W12 F_typ (Or.inl ne_yy)
    have A_yy := A_yy.set W12
    change Arl Z h12 yy .int [.int (2 : Int32), .int (0 : Int32), .int (0 : Int32), .int (0 : Int32)] at A_yy
    refine Wk.iinc X d1_108 111 rfl #[.val (.ref a1), .val (.int od), .val (.ref r), .val (.ref u), .val (.ref f), .val (.int (4 : Int32)), .val (.int (0 : Int32)), .val (.int (3 : Int32))] rfl rfl ?_
    refine Wk.goto X d1_111 62 (by decide) ?_
    refine Wk.iload X d1_62 64 rfl rfl ?_
    refine Wk.aload X d1_64 66 rfl rfl rfl ?_
    refine Wk.iload X d1_66 68 rfl rfl ?_
    refine Wk.iconst X d1_68 69 rfl (1 : Int32) rfl ?_
    refine Wk.iadd X d1_69 70 rfl ?_
    refine Wk.topI (1 : Int32) (by decide) ?_
    refine Wk.iaload X A_f 1 rfl rfl d1_70 71 rfl ?_
    refine Wk.icmpF X d1_71 74 rfl (show (3 : Int32) < (4 : Int32) from (by decide)) ?_
    refine Wk.aloadN X d1_74 75 rfl rfl rfl ?_
    refine Wk.getfield X (t22 hw) Via.refl F_tot d1_75 78 rfl ?_
    intro T X
    refine Wk.iload X d1_78 80 rfl rfl ?_
    refine Wk.dup2 X d1_80 81 rfl rfl rfl ?_
    refine Wk.laload X A_tt 0 rfl rfl d1_81 82 rfl ?_
    refine Wk.aloadN X d1_82 83 rfl rfl rfl ?_
    refine Wk.iload X d1_83 85 rfl rfl ?_
    refine Wk.laload X A_u 3 rfl rfl d1_85 86 rfl ?_
    refine Wk.ladd X d1_86 87 rfl ?_
    refine Wk.lastore X A_tt nn_tt 0 rfl (Nat.le_of_ble_eq_true rfl) d1_87 88 rfl ?_
    intro T h13 X W13
    have A_u := A_u.other W13 ne_utt
    have A_f := A_f.other W13 ne_ftt
    have K := K.wr W13 (Or.inr ge_tt)
    have F_cps := Fld.other W13 F_cps (Or.inl ne_tt)
    have F_fc := Fld.other W13 F_fc (Or.inl ne_tt)
    have F_tot := Fld.other W13 F_tot (Or.inl ne_tt)
    have A_yy := A_yy.other W13 (Ne.symm ne_ttyy)
    have F_typ := Fld.other W13 F_typ (Or.inl ne_tt)
    have A_tt := A_tt.set W13
    change Arl Z h13 tt .long [.long ((((0 : Int64) + (1 : Int64)) + (1 : Int64)) + (1 : Int64)), .long (0 : Int64), .long (0 : Int64), .long (0 : Int64)] at A_tt
    refine Wk.aloadN X d1_88 89 rfl rfl rfl ?_
    refine Wk.iload X d1_89 91 rfl rfl ?_
    refine Wk.laload X A_u 3 rfl rfl d1_91 92 rfl ?_
    refine Wk.lconst X d1_92 93 rfl (0 : Int64) rfl ?_
    refine Wk.lcmp X d1_93 94 rfl ?_
    refine Wk.topI (1 : Int32) (by decide) ?_
    refine Wk.ifcF X d1_94 97 rfl (show (0 : Int32) < (1 : Int32) from (by decide)) ?_
    refine Wk.aloadN X d1_97 98 rfl rfl rfl ?_
    refine Wk.getfield X (t24 hw) Via.refl F_typ d1_98 101 rfl ?_
    intro T X
    refine Wk.iload X d1_101 103 rfl rfl ?_
    refine Wk.dup2 X d1_103 104 rfl rfl rfl ?_
    refine Wk.iaload X A_yy 0 rfl rfl d1_104 105 rfl ?_
    refine Wk.iconst X d1_105 106 rfl (1 : Int32) rfl ?_
    refine Wk.iadd X d1_106 107 rfl ?_
    refine Wk.topI (3 : Int32) (by decide) ?_
    refine Wk.iastore X A_yy nn_yy 0 rfl (Nat.le_of_ble_eq_true rfl) d1_107 108 rfl ?_
    intro T h14 X W14
    have A_u := A_u.other W14 ne_uyy
    have A_f := A_f.other W14 ne_fyy
    have K := K.wr W14 (Or.inr ge_yy)
    have F_cps := Fld.other W14 F_cps (Or.inl ne_yy)
    have F_fc := Fld.other W14 F_fc (Or.inl ne_yy)
    have A_tt := A_tt.other W14 ne_ttyy
    have F_tot := Fld.other W14 F_tot (Or.inl ne_yy)
    have F_typ := Fld.other W14 F_typ (Or.inl ne_yy)
    have A_yy := A_yy.set W14
    change Arl Z h14 yy .int [.int (3 : Int32), .int (0 : Int32), .int (0 : Int32), .int (0 : Int32)] at A_yy
    refine Wk.iinc X d1_108 111 rfl #[.val (.ref a1), .val (.int od), .val (.ref r), .val (.ref u), .val (.ref f), .val (.int (4 : Int32)), .val (.int (0 : Int32)), .val (.int (4 : Int32))] rfl rfl ?_
    refine Wk.goto X d1_111 62 (by decide) ?_
    refine Wk.iload X d1_62 64 rfl rfl ?_
    refine Wk.aload X d1_64 66 rfl rfl rfl ?_
    refine Wk.iload X d1_66 68 rfl rfl ?_
    refine Wk.iconst X d1_68 69 rfl (1 : Int32) rfl ?_
    refine Wk.iadd X d1_69 70 rfl ?_
    refine Wk.topI (1 : Int32) (by decide) ?_
    refine Wk.iaload X A_f 1 rfl rfl d1_70 71 rfl ?_
    refine Wk.icmpT X d1_71 114 (by decide) (show ¬ (4 : Int32) < (4 : Int32) from (by decide)) ?_
    refine Wk.iinc X d1_114 117 rfl #[.val (.ref a1), .val (.int od), .val (.ref r), .val (.ref u), .val (.ref f), .val (.int (4 : Int32)), .val (.int (1 : Int32)), .val (.int (4 : Int32))] rfl rfl ?_
    refine Wk.goto X d1_117 48 (by decide) ?_
    refine Wk.iload X d1_48 50 rfl rfl ?_
    refine Wk.iload X d1_50 52 rfl rfl ?_
    refine Wk.icmpF X d1_52 55 rfl (show (1 : Int32) < (4 : Int32) from (by decide)) ?_
    refine Wk.aload X d1_55 57 rfl rfl rfl ?_
    refine Wk.iload X d1_57 59 rfl rfl ?_
    refine Wk.iaload X A_f 1 rfl rfl d1_59 60 rfl ?_
    refine Wk.istore X d1_60 62 rfl #[.val (.ref a1), .val (.int od), .val (.ref r), .val (.ref u), .val (.ref f), .val (.int (4 : Int32)), .val (.int (1 : Int32)), .val (.int (4 : Int32))] rfl ?_
    refine Wk.iload X d1_62 64 rfl rfl ?_
    refine Wk.aload X d1_64 66 rfl rfl rfl ?_
    refine Wk.iload X d1_66 68 rfl rfl ?_
    refine Wk.iconst X d1_68 69 rfl (1 : Int32) rfl ?_
    refine Wk.iadd X d1_69 70 rfl ?_
    refine Wk.topI (2 : Int32) (by decide) ?_
    refine Wk.iaload X A_f 2 rfl rfl d1_70 71 rfl ?_
    refine Wk.icmpT X d1_71 114 (by decide) (show ¬ (4 : Int32) < (4 : Int32) from (by decide)) ?_
    refine Wk.iinc X d1_114 117 rfl #[.val (.ref a1), .val (.int od), .val (.ref r), .val (.ref u), .val (.ref f), .val (.int (4 : Int32)), .val (.int (2 : Int32)), .val (.int (4 : Int32))] rfl rfl ?_
    refine Wk.goto X d1_117 48 (by decide) ?_
    refine Wk.iload X d1_48 50 rfl rfl ?_
    refine Wk.iload X d1_50 52 rfl rfl ?_
    refine Wk.icmpF X d1_52 55 rfl (show (2 : Int32) < (4 : Int32) from (by decide)) ?_
    refine Wk.aload X d1_55 57 rfl rfl rfl ?_
    refine Wk.iload X d1_57 59 rfl rfl ?_
    refine Wk.iaload X A_f 2 rfl rfl d1_59 60 rfl ?_
    refine Wk.istore X d1_60 62 rfl #[.val (.ref a1), .val (.int od), .val (.ref r), .val (.ref u), .val (.ref f), .val (.int (4 : Int32)), .val (.int (2 : Int32)), .val (.int (4 : Int32))] rfl ?_
    refine Wk.iload X d1_62 64 rfl rfl ?_
    refine Wk.aload X d1_64 66 rfl rfl rfl ?_
    refine Wk.iload X d1_66 68 rfl rfl ?_
    refine Wk.iconst X d1_68 69 rfl (1 : Int32) rfl ?_
    refine Wk.iadd X d1_69 70 rfl ?_
    refine Wk.topI (3 : Int32) (by decide) ?_
    refine Wk.iaload X A_f 3 rfl rfl d1_70 71 rfl ?_
    refine Wk.icmpT X d1_71 114 (by decide) (show ¬ (4 : Int32) < (4 : Int32) from (by decide)) ?_
    refine Wk.iinc X d1_114 117 rfl #[.val (.ref a1), .val (.int od), .val (.ref r), .val (.ref u), .val (.ref f), .val (.int (4 : Int32)), .val (.int (3 : Int32)), .val (.int (4 : Int32))] rfl rfl ?_
    refine Wk.goto X d1_117 48 (by decide) ?_
    refine Wk.iload X d1_48 50 rfl rfl ?_
    refine Wk.iload X d1_50 52 rfl rfl ?_
    refine Wk.icmpF X d1_52 55 rfl (show (3 : Int32) < (4 : Int32) from (by decide)) ?_
    refine Wk.aload X d1_55 57 rfl rfl rfl ?_
    refine Wk.iload X d1_57 59 rfl rfl ?_
    refine Wk.iaload X A_f 3 rfl rfl d1_59 60 rfl ?_
    refine Wk.istore X d1_60 62 rfl #[.val (.ref a1), .val (.int od), .val (.ref r), .val (.ref u), .val (.ref f), .val (.int (4 : Int32)), .val (.int (3 : Int32)), .val (.int (4 : Int32))] rfl ?_
    refine Wk.iload X d1_62 64 rfl rfl ?_
    refine Wk.aload X d1_64 66 rfl rfl rfl ?_
    refine Wk.iload X d1_66 68 rfl rfl ?_
    refine Wk.iconst X d1_68 69 rfl (1 : Int32) rfl ?_
    refine Wk.iadd X d1_69 70 rfl ?_
    refine Wk.topI (4 : Int32) (by decide) ?_
    refine Wk.iaload X A_f 4 rfl rfl d1_70 71 rfl ?_
    refine Wk.icmpT X d1_71 114 (by decide) (show ¬ (4 : Int32) < (4 : Int32) from (by decide)) ?_
    refine Wk.iinc X d1_114 117 rfl #[.val (.ref a1), .val (.int od), .val (.ref r), .val (.ref u), .val (.ref f), .val (.int (4 : Int32)), .val (.int (4 : Int32)), .val (.int (4 : Int32))] rfl rfl ?_
    refine Wk.goto X d1_117 48 (by decide) ?_
    refine Wk.iload X d1_48 50 rfl rfl ?_
    refine Wk.iload X d1_50 52 rfl rfl ?_
    refine Wk.icmpT X d1_52 120 (by decide) (show ¬ (4 : Int32) < (4 : Int32) from (by decide)) ?_
    exact Wk.vreturn X d1_120 (by decide) (by decide) ⟨rfl, K, F_cps, F_fc⟩
theorem own_s5 {a1 : Addr} {nd q lo hi v : Int32} {s5 s6 : Slot} (k : One s5) : storeLocals #[.val (.ref a1), .val (.int nd), .val (.int q), .val (.int lo), .val (.int hi), s5, s6] 5 (.int v) = some #[.val (.ref a1), .val (.int nd), .val (.int q), .val (.int lo), .val (.int hi), .val (.int v), s6] := by
  rcases k with rfl | ⟨w, rfl, hw⟩
  · rfl
  · cases w <;> first | rfl | (simp [Value.category] at hw)
theorem own_s6 {a1 : Addr} {nd q lo hi v : Int32} {s5 s6 : Slot} (k : One s6) : storeLocals #[.val (.ref a1), .val (.int nd), .val (.int q), .val (.int lo), .val (.int hi), s5, s6] 6 (.int v) = some #[.val (.ref a1), .val (.int nd), .val (.int q), .val (.int lo), .val (.int hi), s5, .val (.int v)] := by
  rcases k with rfl | ⟨w, rfl, hw⟩
  · rfl
  · cases w <;> first | rfl | (simp [Value.category] at hw)
theorem d6_0 : decode prog_108_method_4_code 0 = .ok (.aload_n 0, 1) := by decide +kernel
theorem d6_1 : decode prog_108_method_4_code 1 = .ok (.getfield 23, 3) := by decide +kernel
theorem d6_4 : decode prog_108_method_4_code 4 = .ok (.iload_n 1, 1) := by decide +kernel
theorem d6_5 : decode prog_108_method_4_code 5 = .ok (.iaload, 1) := by decide +kernel
theorem d6_6 : decode prog_108_method_4_code 6 = .ok (.istore_n 3, 1) := by decide +kernel
theorem d6_7 : decode prog_108_method_4_code 7 = .ok (.aload_n 0, 1) := by decide +kernel
theorem d6_8 : decode prog_108_method_4_code 8 = .ok (.getfield 23, 3) := by decide +kernel
theorem d6_11 : decode prog_108_method_4_code 11 = .ok (.iload_n 1, 1) := by decide +kernel
theorem d6_12 : decode prog_108_method_4_code 12 = .ok (.iconst 1, 1) := by decide +kernel
theorem d6_13 : decode prog_108_method_4_code 13 = .ok (.iadd, 1) := by decide +kernel
theorem d6_14 : decode prog_108_method_4_code 14 = .ok (.iaload, 1) := by decide +kernel
theorem d6_15 : decode prog_108_method_4_code 15 = .ok (.iconst 1, 1) := by decide +kernel
theorem d6_16 : decode prog_108_method_4_code 16 = .ok (.isub, 1) := by decide +kernel
theorem d6_17 : decode prog_108_method_4_code 17 = .ok (.istore 4, 2) := by decide +kernel
theorem d6_19 : decode prog_108_method_4_code 19 = .ok (.iload_n 3, 1) := by decide +kernel
theorem d6_20 : decode prog_108_method_4_code 20 = .ok (.iload 4, 2) := by decide +kernel
theorem d6_22 : decode prog_108_method_4_code 22 = .ok (.if_icmp .gt 55, 3) := by decide +kernel
theorem d6_25 : decode prog_108_method_4_code 25 = .ok (.iload_n 3, 1) := by decide +kernel
theorem d6_26 : decode prog_108_method_4_code 26 = .ok (.iload 4, 2) := by decide +kernel
theorem d6_28 : decode prog_108_method_4_code 28 = .ok (.iadd, 1) := by decide +kernel
theorem d6_29 : decode prog_108_method_4_code 29 = .ok (.iconst 1, 1) := by decide +kernel
theorem d6_30 : decode prog_108_method_4_code 30 = .ok (.iushr, 1) := by decide +kernel
theorem d6_31 : decode prog_108_method_4_code 31 = .ok (.istore 5, 2) := by decide +kernel
theorem d6_33 : decode prog_108_method_4_code 33 = .ok (.aload_n 0, 1) := by decide +kernel
theorem d6_34 : decode prog_108_method_4_code 34 = .ok (.getfield 15, 3) := by decide +kernel
theorem d6_37 : decode prog_108_method_4_code 37 = .ok (.iload 5, 2) := by decide +kernel
theorem d6_39 : decode prog_108_method_4_code 39 = .ok (.iaload, 1) := by decide +kernel
theorem d6_40 : decode prog_108_method_4_code 40 = .ok (.istore 6, 2) := by decide +kernel
theorem d6_42 : decode prog_108_method_4_code 42 = .ok (.iload 6, 2) := by decide +kernel
theorem d6_44 : decode prog_108_method_4_code 44 = .ok (.iload_n 2, 1) := by decide +kernel
theorem d6_45 : decode prog_108_method_4_code 45 = .ok (.if_icmp .ge 11, 3) := by decide +kernel
theorem d6_48 : decode prog_108_method_4_code 48 = .ok (.iload 5, 2) := by decide +kernel
theorem d6_50 : decode prog_108_method_4_code 50 = .ok (.iconst 1, 1) := by decide +kernel
theorem d6_51 : decode prog_108_method_4_code 51 = .ok (.iadd, 1) := by decide +kernel
theorem d6_52 : decode prog_108_method_4_code 52 = .ok (.istore_n 3, 1) := by decide +kernel
theorem d6_53 : decode prog_108_method_4_code 53 = .ok (.goto 21, 3) := by decide +kernel
theorem d6_56 : decode prog_108_method_4_code 56 = .ok (.iload 6, 2) := by decide +kernel
theorem d6_58 : decode prog_108_method_4_code 58 = .ok (.iload_n 2, 1) := by decide +kernel
theorem d6_59 : decode prog_108_method_4_code 59 = .ok (.if_icmp .le 12, 3) := by decide +kernel
theorem d6_62 : decode prog_108_method_4_code 62 = .ok (.iload 5, 2) := by decide +kernel
theorem d6_64 : decode prog_108_method_4_code 64 = .ok (.iconst 1, 1) := by decide +kernel
theorem d6_65 : decode prog_108_method_4_code 65 = .ok (.isub, 1) := by decide +kernel
theorem d6_66 : decode prog_108_method_4_code 66 = .ok (.istore 4, 2) := by decide +kernel
theorem d6_68 : decode prog_108_method_4_code 68 = .ok (.goto 6, 3) := by decide +kernel
theorem d6_71 : decode prog_108_method_4_code 71 = .ok (.iload 5, 2) := by decide +kernel
theorem d6_73 : decode prog_108_method_4_code 73 = .ok (.ireturn, 1) := by decide +kernel
theorem d6_74 : decode prog_108_method_4_code 74 = .ok (.goto (-55), 3) := by decide +kernel
theorem d6_77 : decode prog_108_method_4_code 77 = .ok (.iconst (-1), 1) := by decide +kernel
theorem d6_78 : decode prog_108_method_4_code 78 = .ok (.ireturn, 1) := by decide +kernel
set_option maxRecDepth 65536 in
set_option maxHeartbeats 40000000 in
theorem con_child (l : Launch) (Z : State) (a0 : Array Value) (hw : ∀ d ∈ tables_1, d.before a0 Z = true) (ws : List Jvm.Cond) (h0 : Heap) (n0 : Nat) (a1 r f : Addr) (nd q v0 c1 c2 c3 lo hi : Int32) (ix l' u' : Nat) (fs : List Value) (F_cps : Fld Z h0 a1 "com/example/garblescore/garblescore/language/CharacterCounts" "codePoints" "[I" (.ref r)) (F_fc : Fld Z h0 a1 "com/example/garblescore/garblescore/language/CharacterCounts" "firstChildren" "[I" (.ref f)) (A_r : Arl Z h0 r .int [.int v0, .int c1, .int c2, .int c3]) (A_f : Arl Z h0 f .int fs) (hx : nd.toInt = ix) (hx1 : (nd + (1 : Int32)).toInt = ((ix + 1 : Nat) : Int)) (hlo : fs[ix]? = some (.int lo)) (hhi : fs[ix + 1]? = some (.int hi)) (hc : Rng lo hi l' u') (s12 : c1 < c2) (s23 : c2 < c3) :
    Con l (⟨"com/example/garblescore/garblescore/language/CharacterCounts", "child", "(II)I"⟩ : MethodName) prog_108_method_4_code 7 (some .int) ({ frames := 0, cells := 0, slots := 0, locals := 0 } : Room) ws Z #[(.ref a1), (.int nd), (.int q)] h0 n0 (fun v h => v = some (.int (resR l' u' c1 c2 c3 q)) ∧ h0 = h) := by
  refine Con.of (plainFor_of_name pn0) ?_
  intro p e s m below meth c T X nm
  rw [show entryFrame m #[(.ref a1), (.int nd), (.int q)] 7 = mkF m 0 #[.val (.ref a1), .val (.int nd), .val (.int q), .unset, .unset, .unset, .unset] [] from by (first | (simp [entryFrame, mkF, argsToLocals, Value.category]; done) | rfl)]
  have w_1_1 : ∀ (T : State) (s5 s6 : Slot), One s5 → One s6 → Hr p l e ({ frames := 0, cells := 0, slots := 0, locals := 0 } : Room) s m #[(.ref a1), (.int nd), (.int q)] below meth c Z "com/example/garblescore/garblescore/language/CharacterCounts" prog_108_method_4_code 7 n0 (some .int) T h0 0 0 → resR 1 1 c1 c2 c3 q = resR l' u' c1 c2 c3 q → Wk p.tables e below (Gl s n0 (fun v h => v = some (.int (resR l' u' c1 c2 c3 q)) ∧ h0 = h) 0 0) (T.setTop (mkF m 19 #[.val (.ref a1), .val (.int nd), .val (.int q), .val (.int (1 : Int32)), .val (.int (0 : Int32)), s5, s6] [])) := by
    intro T s5 s6 o5 o6 X hR
    refine Wk.iloadN X d6_19 20 rfl rfl ?_
    refine Wk.iload X d6_20 22 rfl rfl ?_
    refine Wk.icmpT X d6_22 77 (by decide) (show (0 : Int32) < (1 : Int32) from (by decide)) ?_
    refine Wk.iconst X d6_77 78 rfl (-1 : Int32) rfl ?_
    exact Wk.ireturn X d6_78 (by decide) (by decide) ⟨by rw [← hR]; simp [resR], rfl⟩
  have w_2_2 : ∀ (T : State) (s5 s6 : Slot), One s5 → One s6 → Hr p l e ({ frames := 0, cells := 0, slots := 0, locals := 0 } : Room) s m #[(.ref a1), (.int nd), (.int q)] below meth c Z "com/example/garblescore/garblescore/language/CharacterCounts" prog_108_method_4_code 7 n0 (some .int) T h0 0 0 → resR 2 2 c1 c2 c3 q = resR l' u' c1 c2 c3 q → Wk p.tables e below (Gl s n0 (fun v h => v = some (.int (resR l' u' c1 c2 c3 q)) ∧ h0 = h) 0 0) (T.setTop (mkF m 19 #[.val (.ref a1), .val (.int nd), .val (.int q), .val (.int (2 : Int32)), .val (.int (1 : Int32)), s5, s6] [])) := by
    intro T s5 s6 o5 o6 X hR
    refine Wk.iloadN X d6_19 20 rfl rfl ?_
    refine Wk.iload X d6_20 22 rfl rfl ?_
    refine Wk.icmpT X d6_22 77 (by decide) (show (1 : Int32) < (2 : Int32) from (by decide)) ?_
    refine Wk.iconst X d6_77 78 rfl (-1 : Int32) rfl ?_
    exact Wk.ireturn X d6_78 (by decide) (by decide) ⟨by rw [← hR]; simp [resR], rfl⟩
  have w_3_3 : ∀ (T : State) (s5 s6 : Slot), One s5 → One s6 → Hr p l e ({ frames := 0, cells := 0, slots := 0, locals := 0 } : Room) s m #[(.ref a1), (.int nd), (.int q)] below meth c Z "com/example/garblescore/garblescore/language/CharacterCounts" prog_108_method_4_code 7 n0 (some .int) T h0 0 0 → resR 3 3 c1 c2 c3 q = resR l' u' c1 c2 c3 q → Wk p.tables e below (Gl s n0 (fun v h => v = some (.int (resR l' u' c1 c2 c3 q)) ∧ h0 = h) 0 0) (T.setTop (mkF m 19 #[.val (.ref a1), .val (.int nd), .val (.int q), .val (.int (3 : Int32)), .val (.int (2 : Int32)), s5, s6] [])) := by
    intro T s5 s6 o5 o6 X hR
    refine Wk.iloadN X d6_19 20 rfl rfl ?_
    refine Wk.iload X d6_20 22 rfl rfl ?_
    refine Wk.icmpT X d6_22 77 (by decide) (show (2 : Int32) < (3 : Int32) from (by decide)) ?_
    refine Wk.iconst X d6_77 78 rfl (-1 : Int32) rfl ?_
    exact Wk.ireturn X d6_78 (by decide) (by decide) ⟨by rw [← hR]; simp [resR], rfl⟩
  have w_4_4 : ∀ (T : State) (s5 s6 : Slot), One s5 → One s6 → Hr p l e ({ frames := 0, cells := 0, slots := 0, locals := 0 } : Room) s m #[(.ref a1), (.int nd), (.int q)] below meth c Z "com/example/garblescore/garblescore/language/CharacterCounts" prog_108_method_4_code 7 n0 (some .int) T h0 0 0 → resR 4 4 c1 c2 c3 q = resR l' u' c1 c2 c3 q → Wk p.tables e below (Gl s n0 (fun v h => v = some (.int (resR l' u' c1 c2 c3 q)) ∧ h0 = h) 0 0) (T.setTop (mkF m 19 #[.val (.ref a1), .val (.int nd), .val (.int q), .val (.int (4 : Int32)), .val (.int (3 : Int32)), s5, s6] [])) := by
    intro T s5 s6 o5 o6 X hR
    refine Wk.iloadN X d6_19 20 rfl rfl ?_
    refine Wk.iload X d6_20 22 rfl rfl ?_
    refine Wk.icmpT X d6_22 77 (by decide) (show (3 : Int32) < (4 : Int32) from (by decide)) ?_
    refine Wk.iconst X d6_77 78 rfl (-1 : Int32) rfl ?_
    exact Wk.ireturn X d6_78 (by decide) (by decide) ⟨by rw [← hR]; simp [resR], rfl⟩
  have w_1_2 : ∀ (T : State) (s5 s6 : Slot), One s5 → One s6 → Hr p l e ({ frames := 0, cells := 0, slots := 0, locals := 0 } : Room) s m #[(.ref a1), (.int nd), (.int q)] below meth c Z "com/example/garblescore/garblescore/language/CharacterCounts" prog_108_method_4_code 7 n0 (some .int) T h0 0 0 → resR 1 2 c1 c2 c3 q = resR l' u' c1 c2 c3 q → Wk p.tables e below (Gl s n0 (fun v h => v = some (.int (resR l' u' c1 c2 c3 q)) ∧ h0 = h) 0 0) (T.setTop (mkF m 19 #[.val (.ref a1), .val (.int nd), .val (.int q), .val (.int (1 : Int32)), .val (.int (1 : Int32)), s5, s6] [])) := by
    intro T s5 s6 o5 o6 X hR
    refine Wk.iloadN X d6_19 20 rfl rfl ?_
    refine Wk.iload X d6_20 22 rfl rfl ?_
    refine Wk.icmpF X d6_22 25 rfl (show ¬ (1 : Int32) < (1 : Int32) from (by decide)) ?_
    refine Wk.iloadN X d6_25 26 rfl rfl ?_
    refine Wk.iload X d6_26 28 rfl rfl ?_
    refine Wk.iadd X d6_28 29 rfl ?_
    refine Wk.topI (2 : Int32) (by decide) ?_
    refine Wk.iconst X d6_29 30 rfl (1 : Int32) rfl ?_
    refine Wk.iushr X d6_30 31 rfl ?_
    refine Wk.topI (1 : Int32) (by decide) ?_
    refine Wk.istore X d6_31 33 rfl #[.val (.ref a1), .val (.int nd), .val (.int q), .val (.int (1 : Int32)), .val (.int (1 : Int32)), .val (.int (1 : Int32)), s6] (own_s5 o5) ?_
    refine Wk.aloadN X d6_33 34 rfl rfl rfl ?_
    refine Wk.getfield X (t16 hw) Via.refl F_cps d6_34 37 rfl ?_
    intro T X
    refine Wk.iload X d6_37 39 rfl rfl ?_
    refine Wk.iaload X A_r 1 rfl rfl d6_39 40 rfl ?_
    refine Wk.istore X d6_40 42 rfl #[.val (.ref a1), .val (.int nd), .val (.int q), .val (.int (1 : Int32)), .val (.int (1 : Int32)), .val (.int (1 : Int32)), .val (.int c1)] (own_s6 o6) ?_
    refine Wk.iload X d6_42 44 rfl rfl ?_
    refine Wk.iloadN X d6_44 45 rfl rfl ?_
    refine Wk.icmp X d6_45 56 48 (by decide) rfl ?_ ?_
    · intro k1; change ¬ c1 < q at k1
      refine Wk.iload X d6_56 58 rfl rfl ?_
      refine Wk.iloadN X d6_58 59 rfl rfl ?_
      refine Wk.icmp X d6_59 71 62 (by decide) rfl ?_ ?_
      · intro k2; change ¬ q < c1 at k2
        have eq : c1 = q := by simp only [Int32.lt_iff_toInt_lt, ← Int32.toInt_inj] at k1 k2 ⊢; omega
        refine Wk.iload X d6_71 73 rfl rfl ?_
        exact Wk.ireturn X d6_73 (by decide) (by decide) ⟨by rw [← hR]; simp [resR, eq], rfl⟩
      · intro k2; change q < c1 at k2
        refine Wk.iload X d6_62 64 rfl rfl ?_
        refine Wk.iconst X d6_64 65 rfl (1 : Int32) rfl ?_
        refine Wk.isub X d6_65 66 rfl ?_
        refine Wk.topI (0 : Int32) (by decide) ?_
        refine Wk.istore X d6_66 68 rfl #[.val (.ref a1), .val (.int nd), .val (.int q), .val (.int (1 : Int32)), .val (.int (0 : Int32)), .val (.int (1 : Int32)), .val (.int c1)] rfl ?_
        refine Wk.goto X d6_68 74 (by decide) ?_
        refine Wk.goto X d6_74 19 (by decide) ?_
        exact w_1_1 T _ _ (One.val rfl) (One.val rfl) X (by rw [← hR]; simp [resR, (show ¬ c1 = q from by simp only [Int32.lt_iff_toInt_lt, ← Int32.toInt_inj] at s12 s23 k2 ⊢; omega)])
    · intro k1; change c1 < q at k1
      refine Wk.iload X d6_48 50 rfl rfl ?_
      refine Wk.iconst X d6_50 51 rfl (1 : Int32) rfl ?_
      refine Wk.iadd X d6_51 52 rfl ?_
      refine Wk.topI (2 : Int32) (by decide) ?_
      refine Wk.istoreN X d6_52 53 rfl #[.val (.ref a1), .val (.int nd), .val (.int q), .val (.int (2 : Int32)), .val (.int (1 : Int32)), .val (.int (1 : Int32)), .val (.int c1)] rfl ?_
      refine Wk.goto X d6_53 74 (by decide) ?_
      refine Wk.goto X d6_74 19 (by decide) ?_
      exact w_2_2 T _ _ (One.val rfl) (One.val rfl) X (by rw [← hR]; simp [resR, (show ¬ c1 = q from by simp only [Int32.lt_iff_toInt_lt, ← Int32.toInt_inj] at s12 s23 k1 ⊢; omega)])
  have w_2_3 : ∀ (T : State) (s5 s6 : Slot), One s5 → One s6 → Hr p l e ({ frames := 0, cells := 0, slots := 0, locals := 0 } : Room) s m #[(.ref a1), (.int nd), (.int q)] below meth c Z "com/example/garblescore/garblescore/language/CharacterCounts" prog_108_method_4_code 7 n0 (some .int) T h0 0 0 → resR 2 3 c1 c2 c3 q = resR l' u' c1 c2 c3 q → Wk p.tables e below (Gl s n0 (fun v h => v = some (.int (resR l' u' c1 c2 c3 q)) ∧ h0 = h) 0 0) (T.setTop (mkF m 19 #[.val (.ref a1), .val (.int nd), .val (.int q), .val (.int (2 : Int32)), .val (.int (2 : Int32)), s5, s6] [])) := by
    intro T s5 s6 o5 o6 X hR
    refine Wk.iloadN X d6_19 20 rfl rfl ?_
    refine Wk.iload X d6_20 22 rfl rfl ?_
    refine Wk.icmpF X d6_22 25 rfl (show ¬ (2 : Int32) < (2 : Int32) from (by decide)) ?_
    refine Wk.iloadN X d6_25 26 rfl rfl ?_
    refine Wk.iload X d6_26 28 rfl rfl ?_
    refine Wk.iadd X d6_28 29 rfl ?_
    refine Wk.topI (4 : Int32) (by decide) ?_
    refine Wk.iconst X d6_29 30 rfl (1 : Int32) rfl ?_
    refine Wk.iushr X d6_30 31 rfl ?_
    refine Wk.topI (2 : Int32) (by decide) ?_
    refine Wk.istore X d6_31 33 rfl #[.val (.ref a1), .val (.int nd), .val (.int q), .val (.int (2 : Int32)), .val (.int (2 : Int32)), .val (.int (2 : Int32)), s6] (own_s5 o5) ?_
    refine Wk.aloadN X d6_33 34 rfl rfl rfl ?_
    refine Wk.getfield X (t16 hw) Via.refl F_cps d6_34 37 rfl ?_
    intro T X
    refine Wk.iload X d6_37 39 rfl rfl ?_
    refine Wk.iaload X A_r 2 rfl rfl d6_39 40 rfl ?_
    refine Wk.istore X d6_40 42 rfl #[.val (.ref a1), .val (.int nd), .val (.int q), .val (.int (2 : Int32)), .val (.int (2 : Int32)), .val (.int (2 : Int32)), .val (.int c2)] (own_s6 o6) ?_
    refine Wk.iload X d6_42 44 rfl rfl ?_
    refine Wk.iloadN X d6_44 45 rfl rfl ?_
    refine Wk.icmp X d6_45 56 48 (by decide) rfl ?_ ?_
    · intro k1; change ¬ c2 < q at k1
      refine Wk.iload X d6_56 58 rfl rfl ?_
      refine Wk.iloadN X d6_58 59 rfl rfl ?_
      refine Wk.icmp X d6_59 71 62 (by decide) rfl ?_ ?_
      · intro k2; change ¬ q < c2 at k2
        have eq : c2 = q := by simp only [Int32.lt_iff_toInt_lt, ← Int32.toInt_inj] at k1 k2 ⊢; omega
        refine Wk.iload X d6_71 73 rfl rfl ?_
        exact Wk.ireturn X d6_73 (by decide) (by decide) ⟨by rw [← hR]; simp [resR, eq], rfl⟩
      · intro k2; change q < c2 at k2
        refine Wk.iload X d6_62 64 rfl rfl ?_
        refine Wk.iconst X d6_64 65 rfl (1 : Int32) rfl ?_
        refine Wk.isub X d6_65 66 rfl ?_
        refine Wk.topI (1 : Int32) (by decide) ?_
        refine Wk.istore X d6_66 68 rfl #[.val (.ref a1), .val (.int nd), .val (.int q), .val (.int (2 : Int32)), .val (.int (1 : Int32)), .val (.int (2 : Int32)), .val (.int c2)] rfl ?_
        refine Wk.goto X d6_68 74 (by decide) ?_
        refine Wk.goto X d6_74 19 (by decide) ?_
        exact w_2_2 T _ _ (One.val rfl) (One.val rfl) X (by rw [← hR]; simp [resR, (show ¬ c2 = q from by simp only [Int32.lt_iff_toInt_lt, ← Int32.toInt_inj] at s12 s23 k2 ⊢; omega)])
    · intro k1; change c2 < q at k1
      refine Wk.iload X d6_48 50 rfl rfl ?_
      refine Wk.iconst X d6_50 51 rfl (1 : Int32) rfl ?_
      refine Wk.iadd X d6_51 52 rfl ?_
      refine Wk.topI (3 : Int32) (by decide) ?_
      refine Wk.istoreN X d6_52 53 rfl #[.val (.ref a1), .val (.int nd), .val (.int q), .val (.int (3 : Int32)), .val (.int (2 : Int32)), .val (.int (2 : Int32)), .val (.int c2)] rfl ?_
      refine Wk.goto X d6_53 74 (by decide) ?_
      refine Wk.goto X d6_74 19 (by decide) ?_
      exact w_3_3 T _ _ (One.val rfl) (One.val rfl) X (by rw [← hR]; simp [resR, (show ¬ c2 = q from by simp only [Int32.lt_iff_toInt_lt, ← Int32.toInt_inj] at s12 s23 k1 ⊢; omega)])
  have w_3_4 : ∀ (T : State) (s5 s6 : Slot), One s5 → One s6 → Hr p l e ({ frames := 0, cells := 0, slots := 0, locals := 0 } : Room) s m #[(.ref a1), (.int nd), (.int q)] below meth c Z "com/example/garblescore/garblescore/language/CharacterCounts" prog_108_method_4_code 7 n0 (some .int) T h0 0 0 → resR 3 4 c1 c2 c3 q = resR l' u' c1 c2 c3 q → Wk p.tables e below (Gl s n0 (fun v h => v = some (.int (resR l' u' c1 c2 c3 q)) ∧ h0 = h) 0 0) (T.setTop (mkF m 19 #[.val (.ref a1), .val (.int nd), .val (.int q), .val (.int (3 : Int32)), .val (.int (3 : Int32)), s5, s6] [])) := by
    intro T s5 s6 o5 o6 X hR
    refine Wk.iloadN X d6_19 20 rfl rfl ?_
    refine Wk.iload X d6_20 22 rfl rfl ?_
    refine Wk.icmpF X d6_22 25 rfl (show ¬ (3 : Int32) < (3 : Int32) from (by decide)) ?_
    refine Wk.iloadN X d6_25 26 rfl rfl ?_
    refine Wk.iload X d6_26 28 rfl rfl ?_
    refine Wk.iadd X d6_28 29 rfl ?_
    refine Wk.topI (6 : Int32) (by decide) ?_
    refine Wk.iconst X d6_29 30 rfl (1 : Int32) rfl ?_
    refine Wk.iushr X d6_30 31 rfl ?_
    refine Wk.topI (3 : Int32) (by decide) ?_
    refine Wk.istore X d6_31 33 rfl #[.val (.ref a1), .val (.int nd), .val (.int q), .val (.int (3 : Int32)), .val (.int (3 : Int32)), .val (.int (3 : Int32)), s6] (own_s5 o5) ?_
    refine Wk.aloadN X d6_33 34 rfl rfl rfl ?_
    refine Wk.getfield X (t16 hw) Via.refl F_cps d6_34 37 rfl ?_
    intro T X
    refine Wk.iload X d6_37 39 rfl rfl ?_
    refine Wk.iaload X A_r 3 rfl rfl d6_39 40 rfl ?_
    refine Wk.istore X d6_40 42 rfl #[.val (.ref a1), .val (.int nd), .val (.int q), .val (.int (3 : Int32)), .val (.int (3 : Int32)), .val (.int (3 : Int32)), .val (.int c3)] (own_s6 o6) ?_
    refine Wk.iload X d6_42 44 rfl rfl ?_
    refine Wk.iloadN X d6_44 45 rfl rfl ?_
    refine Wk.icmp X d6_45 56 48 (by decide) rfl ?_ ?_
    · intro k1; change ¬ c3 < q at k1
      refine Wk.iload X d6_56 58 rfl rfl ?_
      refine Wk.iloadN X d6_58 59 rfl rfl ?_
      refine Wk.icmp X d6_59 71 62 (by decide) rfl ?_ ?_
      · intro k2; change ¬ q < c3 at k2
        have eq : c3 = q := by simp only [Int32.lt_iff_toInt_lt, ← Int32.toInt_inj] at k1 k2 ⊢; omega
        refine Wk.iload X d6_71 73 rfl rfl ?_
        exact Wk.ireturn X d6_73 (by decide) (by decide) ⟨by rw [← hR]; simp [resR, eq], rfl⟩
      · intro k2; change q < c3 at k2
        refine Wk.iload X d6_62 64 rfl rfl ?_
        refine Wk.iconst X d6_64 65 rfl (1 : Int32) rfl ?_
        refine Wk.isub X d6_65 66 rfl ?_
        refine Wk.topI (2 : Int32) (by decide) ?_
        refine Wk.istore X d6_66 68 rfl #[.val (.ref a1), .val (.int nd), .val (.int q), .val (.int (3 : Int32)), .val (.int (2 : Int32)), .val (.int (3 : Int32)), .val (.int c3)] rfl ?_
        refine Wk.goto X d6_68 74 (by decide) ?_
        refine Wk.goto X d6_74 19 (by decide) ?_
        exact w_3_3 T _ _ (One.val rfl) (One.val rfl) X (by rw [← hR]; simp [resR, (show ¬ c3 = q from by simp only [Int32.lt_iff_toInt_lt, ← Int32.toInt_inj] at s12 s23 k2 ⊢; omega)])
    · intro k1; change c3 < q at k1
      refine Wk.iload X d6_48 50 rfl rfl ?_
      refine Wk.iconst X d6_50 51 rfl (1 : Int32) rfl ?_
      refine Wk.iadd X d6_51 52 rfl ?_
      refine Wk.topI (4 : Int32) (by decide) ?_
      refine Wk.istoreN X d6_52 53 rfl #[.val (.ref a1), .val (.int nd), .val (.int q), .val (.int (4 : Int32)), .val (.int (3 : Int32)), .val (.int (3 : Int32)), .val (.int c3)] rfl ?_
      refine Wk.goto X d6_53 74 (by decide) ?_
      refine Wk.goto X d6_74 19 (by decide) ?_
      exact w_4_4 T _ _ (One.val rfl) (One.val rfl) X (by rw [← hR]; simp [resR, (show ¬ c3 = q from by simp only [Int32.lt_iff_toInt_lt, ← Int32.toInt_inj] at s12 s23 k1 ⊢; omega)])
  have w_1_3 : ∀ (T : State) (s5 s6 : Slot), One s5 → One s6 → Hr p l e ({ frames := 0, cells := 0, slots := 0, locals := 0 } : Room) s m #[(.ref a1), (.int nd), (.int q)] below meth c Z "com/example/garblescore/garblescore/language/CharacterCounts" prog_108_method_4_code 7 n0 (some .int) T h0 0 0 → resR 1 3 c1 c2 c3 q = resR l' u' c1 c2 c3 q → Wk p.tables e below (Gl s n0 (fun v h => v = some (.int (resR l' u' c1 c2 c3 q)) ∧ h0 = h) 0 0) (T.setTop (mkF m 19 #[.val (.ref a1), .val (.int nd), .val (.int q), .val (.int (1 : Int32)), .val (.int (2 : Int32)), s5, s6] [])) := by
    intro T s5 s6 o5 o6 X hR
    refine Wk.iloadN X d6_19 20 rfl rfl ?_
    refine Wk.iload X d6_20 22 rfl rfl ?_
    refine Wk.icmpF X d6_22 25 rfl (show ¬ (2 : Int32) < (1 : Int32) from (by decide)) ?_
    refine Wk.iloadN X d6_25 26 rfl rfl ?_
    refine Wk.iload X d6_26 28 rfl rfl ?_
    refine Wk.iadd X d6_28 29 rfl ?_
    refine Wk.topI (3 : Int32) (by decide) ?_
    refine Wk.iconst X d6_29 30 rfl (1 : Int32) rfl ?_
    refine Wk.iushr X d6_30 31 rfl ?_
    refine Wk.topI (1 : Int32) (by decide) ?_
    refine Wk.istore X d6_31 33 rfl #[.val (.ref a1), .val (.int nd), .val (.int q), .val (.int (1 : Int32)), .val (.int (2 : Int32)), .val (.int (1 : Int32)), s6] (own_s5 o5) ?_
    refine Wk.aloadN X d6_33 34 rfl rfl rfl ?_
    refine Wk.getfield X (t16 hw) Via.refl F_cps d6_34 37 rfl ?_
    intro T X
    refine Wk.iload X d6_37 39 rfl rfl ?_
    refine Wk.iaload X A_r 1 rfl rfl d6_39 40 rfl ?_
    refine Wk.istore X d6_40 42 rfl #[.val (.ref a1), .val (.int nd), .val (.int q), .val (.int (1 : Int32)), .val (.int (2 : Int32)), .val (.int (1 : Int32)), .val (.int c1)] (own_s6 o6) ?_
    refine Wk.iload X d6_42 44 rfl rfl ?_
    refine Wk.iloadN X d6_44 45 rfl rfl ?_
    refine Wk.icmp X d6_45 56 48 (by decide) rfl ?_ ?_
    · intro k1; change ¬ c1 < q at k1
      refine Wk.iload X d6_56 58 rfl rfl ?_
      refine Wk.iloadN X d6_58 59 rfl rfl ?_
      refine Wk.icmp X d6_59 71 62 (by decide) rfl ?_ ?_
      · intro k2; change ¬ q < c1 at k2
        have eq : c1 = q := by simp only [Int32.lt_iff_toInt_lt, ← Int32.toInt_inj] at k1 k2 ⊢; omega
        refine Wk.iload X d6_71 73 rfl rfl ?_
        exact Wk.ireturn X d6_73 (by decide) (by decide) ⟨by rw [← hR]; simp [resR, eq, (show ¬ c2 = q from by simp only [Int32.lt_iff_toInt_lt, ← Int32.toInt_inj] at s12 s23 k1 k2 ⊢; omega)], rfl⟩
      · intro k2; change q < c1 at k2
        refine Wk.iload X d6_62 64 rfl rfl ?_
        refine Wk.iconst X d6_64 65 rfl (1 : Int32) rfl ?_
        refine Wk.isub X d6_65 66 rfl ?_
        refine Wk.topI (0 : Int32) (by decide) ?_
        refine Wk.istore X d6_66 68 rfl #[.val (.ref a1), .val (.int nd), .val (.int q), .val (.int (1 : Int32)), .val (.int (0 : Int32)), .val (.int (1 : Int32)), .val (.int c1)] rfl ?_
        refine Wk.goto X d6_68 74 (by decide) ?_
        refine Wk.goto X d6_74 19 (by decide) ?_
        exact w_1_1 T _ _ (One.val rfl) (One.val rfl) X (by rw [← hR]; simp [resR, (show ¬ c1 = q from by simp only [Int32.lt_iff_toInt_lt, ← Int32.toInt_inj] at s12 s23 k2 ⊢; omega), (show ¬ c2 = q from by simp only [Int32.lt_iff_toInt_lt, ← Int32.toInt_inj] at s12 s23 k2 ⊢; omega)])
    · intro k1; change c1 < q at k1
      refine Wk.iload X d6_48 50 rfl rfl ?_
      refine Wk.iconst X d6_50 51 rfl (1 : Int32) rfl ?_
      refine Wk.iadd X d6_51 52 rfl ?_
      refine Wk.topI (2 : Int32) (by decide) ?_
      refine Wk.istoreN X d6_52 53 rfl #[.val (.ref a1), .val (.int nd), .val (.int q), .val (.int (2 : Int32)), .val (.int (2 : Int32)), .val (.int (1 : Int32)), .val (.int c1)] rfl ?_
      refine Wk.goto X d6_53 74 (by decide) ?_
      refine Wk.goto X d6_74 19 (by decide) ?_
      exact w_2_3 T _ _ (One.val rfl) (One.val rfl) X (by rw [← hR]; simp [resR, (show ¬ c1 = q from by simp only [Int32.lt_iff_toInt_lt, ← Int32.toInt_inj] at s12 s23 k1 ⊢; omega)])
  have w_2_4 : ∀ (T : State) (s5 s6 : Slot), One s5 → One s6 → Hr p l e ({ frames := 0, cells := 0, slots := 0, locals := 0 } : Room) s m #[(.ref a1), (.int nd), (.int q)] below meth c Z "com/example/garblescore/garblescore/language/CharacterCounts" prog_108_method_4_code 7 n0 (some .int) T h0 0 0 → resR 2 4 c1 c2 c3 q = resR l' u' c1 c2 c3 q → Wk p.tables e below (Gl s n0 (fun v h => v = some (.int (resR l' u' c1 c2 c3 q)) ∧ h0 = h) 0 0) (T.setTop (mkF m 19 #[.val (.ref a1), .val (.int nd), .val (.int q), .val (.int (2 : Int32)), .val (.int (3 : Int32)), s5, s6] [])) := by
    intro T s5 s6 o5 o6 X hR
    refine Wk.iloadN X d6_19 20 rfl rfl ?_
    refine Wk.iload X d6_20 22 rfl rfl ?_
    refine Wk.icmpF X d6_22 25 rfl (show ¬ (3 : Int32) < (2 : Int32) from (by decide)) ?_
    refine Wk.iloadN X d6_25 26 rfl rfl ?_
    refine Wk.iload X d6_26 28 rfl rfl ?_
    refine Wk.iadd X d6_28 29 rfl ?_
    refine Wk.topI (5 : Int32) (by decide) ?_
    refine Wk.iconst X d6_29 30 rfl (1 : Int32) rfl ?_
    refine Wk.iushr X d6_30 31 rfl ?_
    refine Wk.topI (2 : Int32) (by decide) ?_
    refine Wk.istore X d6_31 33 rfl #[.val (.ref a1), .val (.int nd), .val (.int q), .val (.int (2 : Int32)), .val (.int (3 : Int32)), .val (.int (2 : Int32)), s6] (own_s5 o5) ?_
    refine Wk.aloadN X d6_33 34 rfl rfl rfl ?_
    refine Wk.getfield X (t16 hw) Via.refl F_cps d6_34 37 rfl ?_
    intro T X
    refine Wk.iload X d6_37 39 rfl rfl ?_
    refine Wk.iaload X A_r 2 rfl rfl d6_39 40 rfl ?_
    refine Wk.istore X d6_40 42 rfl #[.val (.ref a1), .val (.int nd), .val (.int q), .val (.int (2 : Int32)), .val (.int (3 : Int32)), .val (.int (2 : Int32)), .val (.int c2)] (own_s6 o6) ?_
    refine Wk.iload X d6_42 44 rfl rfl ?_
    refine Wk.iloadN X d6_44 45 rfl rfl ?_
    refine Wk.icmp X d6_45 56 48 (by decide) rfl ?_ ?_
    · intro k1; change ¬ c2 < q at k1
      refine Wk.iload X d6_56 58 rfl rfl ?_
      refine Wk.iloadN X d6_58 59 rfl rfl ?_
      refine Wk.icmp X d6_59 71 62 (by decide) rfl ?_ ?_
      · intro k2; change ¬ q < c2 at k2
        have eq : c2 = q := by simp only [Int32.lt_iff_toInt_lt, ← Int32.toInt_inj] at k1 k2 ⊢; omega
        refine Wk.iload X d6_71 73 rfl rfl ?_
        exact Wk.ireturn X d6_73 (by decide) (by decide) ⟨by rw [← hR]; simp [resR, eq, (show ¬ c3 = q from by simp only [Int32.lt_iff_toInt_lt, ← Int32.toInt_inj] at s12 s23 k1 k2 ⊢; omega)], rfl⟩
      · intro k2; change q < c2 at k2
        refine Wk.iload X d6_62 64 rfl rfl ?_
        refine Wk.iconst X d6_64 65 rfl (1 : Int32) rfl ?_
        refine Wk.isub X d6_65 66 rfl ?_
        refine Wk.topI (1 : Int32) (by decide) ?_
        refine Wk.istore X d6_66 68 rfl #[.val (.ref a1), .val (.int nd), .val (.int q), .val (.int (2 : Int32)), .val (.int (1 : Int32)), .val (.int (2 : Int32)), .val (.int c2)] rfl ?_
        refine Wk.goto X d6_68 74 (by decide) ?_
        refine Wk.goto X d6_74 19 (by decide) ?_
        exact w_2_2 T _ _ (One.val rfl) (One.val rfl) X (by rw [← hR]; simp [resR, (show ¬ c2 = q from by simp only [Int32.lt_iff_toInt_lt, ← Int32.toInt_inj] at s12 s23 k2 ⊢; omega), (show ¬ c3 = q from by simp only [Int32.lt_iff_toInt_lt, ← Int32.toInt_inj] at s12 s23 k2 ⊢; omega)])
    · intro k1; change c2 < q at k1
      refine Wk.iload X d6_48 50 rfl rfl ?_
      refine Wk.iconst X d6_50 51 rfl (1 : Int32) rfl ?_
      refine Wk.iadd X d6_51 52 rfl ?_
      refine Wk.topI (3 : Int32) (by decide) ?_
      refine Wk.istoreN X d6_52 53 rfl #[.val (.ref a1), .val (.int nd), .val (.int q), .val (.int (3 : Int32)), .val (.int (3 : Int32)), .val (.int (2 : Int32)), .val (.int c2)] rfl ?_
      refine Wk.goto X d6_53 74 (by decide) ?_
      refine Wk.goto X d6_74 19 (by decide) ?_
      exact w_3_4 T _ _ (One.val rfl) (One.val rfl) X (by rw [← hR]; simp [resR, (show ¬ c2 = q from by simp only [Int32.lt_iff_toInt_lt, ← Int32.toInt_inj] at s12 s23 k1 ⊢; omega)])
  have w_1_4 : ∀ (T : State) (s5 s6 : Slot), One s5 → One s6 → Hr p l e ({ frames := 0, cells := 0, slots := 0, locals := 0 } : Room) s m #[(.ref a1), (.int nd), (.int q)] below meth c Z "com/example/garblescore/garblescore/language/CharacterCounts" prog_108_method_4_code 7 n0 (some .int) T h0 0 0 → resR 1 4 c1 c2 c3 q = resR l' u' c1 c2 c3 q → Wk p.tables e below (Gl s n0 (fun v h => v = some (.int (resR l' u' c1 c2 c3 q)) ∧ h0 = h) 0 0) (T.setTop (mkF m 19 #[.val (.ref a1), .val (.int nd), .val (.int q), .val (.int (1 : Int32)), .val (.int (3 : Int32)), s5, s6] [])) := by
    intro T s5 s6 o5 o6 X hR
    refine Wk.iloadN X d6_19 20 rfl rfl ?_
    refine Wk.iload X d6_20 22 rfl rfl ?_
    refine Wk.icmpF X d6_22 25 rfl (show ¬ (3 : Int32) < (1 : Int32) from (by decide)) ?_
    refine Wk.iloadN X d6_25 26 rfl rfl ?_
    refine Wk.iload X d6_26 28 rfl rfl ?_
    refine Wk.iadd X d6_28 29 rfl ?_
    refine Wk.topI (4 : Int32) (by decide) ?_
    refine Wk.iconst X d6_29 30 rfl (1 : Int32) rfl ?_
    refine Wk.iushr X d6_30 31 rfl ?_
    refine Wk.topI (2 : Int32) (by decide) ?_
    refine Wk.istore X d6_31 33 rfl #[.val (.ref a1), .val (.int nd), .val (.int q), .val (.int (1 : Int32)), .val (.int (3 : Int32)), .val (.int (2 : Int32)), s6] (own_s5 o5) ?_
    refine Wk.aloadN X d6_33 34 rfl rfl rfl ?_
    refine Wk.getfield X (t16 hw) Via.refl F_cps d6_34 37 rfl ?_
    intro T X
    refine Wk.iload X d6_37 39 rfl rfl ?_
    refine Wk.iaload X A_r 2 rfl rfl d6_39 40 rfl ?_
    refine Wk.istore X d6_40 42 rfl #[.val (.ref a1), .val (.int nd), .val (.int q), .val (.int (1 : Int32)), .val (.int (3 : Int32)), .val (.int (2 : Int32)), .val (.int c2)] (own_s6 o6) ?_
    refine Wk.iload X d6_42 44 rfl rfl ?_
    refine Wk.iloadN X d6_44 45 rfl rfl ?_
    refine Wk.icmp X d6_45 56 48 (by decide) rfl ?_ ?_
    · intro k1; change ¬ c2 < q at k1
      refine Wk.iload X d6_56 58 rfl rfl ?_
      refine Wk.iloadN X d6_58 59 rfl rfl ?_
      refine Wk.icmp X d6_59 71 62 (by decide) rfl ?_ ?_
      · intro k2; change ¬ q < c2 at k2
        have eq : c2 = q := by simp only [Int32.lt_iff_toInt_lt, ← Int32.toInt_inj] at k1 k2 ⊢; omega
        refine Wk.iload X d6_71 73 rfl rfl ?_
        exact Wk.ireturn X d6_73 (by decide) (by decide) ⟨by rw [← hR]; simp [resR, eq, (show ¬ c1 = q from by simp only [Int32.lt_iff_toInt_lt, ← Int32.toInt_inj] at s12 s23 k1 k2 ⊢; omega), (show ¬ c3 = q from by simp only [Int32.lt_iff_toInt_lt, ← Int32.toInt_inj] at s12 s23 k1 k2 ⊢; omega)], rfl⟩
      · intro k2; change q < c2 at k2
        refine Wk.iload X d6_62 64 rfl rfl ?_
        refine Wk.iconst X d6_64 65 rfl (1 : Int32) rfl ?_
        refine Wk.isub X d6_65 66 rfl ?_
        refine Wk.topI (1 : Int32) (by decide) ?_
        refine Wk.istore X d6_66 68 rfl #[.val (.ref a1), .val (.int nd), .val (.int q), .val (.int (1 : Int32)), .val (.int (1 : Int32)), .val (.int (2 : Int32)), .val (.int c2)] rfl ?_
        refine Wk.goto X d6_68 74 (by decide) ?_
        refine Wk.goto X d6_74 19 (by decide) ?_
        exact w_1_2 T _ _ (One.val rfl) (One.val rfl) X (by rw [← hR]; simp [resR, (show ¬ c2 = q from by simp only [Int32.lt_iff_toInt_lt, ← Int32.toInt_inj] at s12 s23 k2 ⊢; omega), (show ¬ c3 = q from by simp only [Int32.lt_iff_toInt_lt, ← Int32.toInt_inj] at s12 s23 k2 ⊢; omega)])
    · intro k1; change c2 < q at k1
      refine Wk.iload X d6_48 50 rfl rfl ?_
      refine Wk.iconst X d6_50 51 rfl (1 : Int32) rfl ?_
      refine Wk.iadd X d6_51 52 rfl ?_
      refine Wk.topI (3 : Int32) (by decide) ?_
      refine Wk.istoreN X d6_52 53 rfl #[.val (.ref a1), .val (.int nd), .val (.int q), .val (.int (3 : Int32)), .val (.int (3 : Int32)), .val (.int (2 : Int32)), .val (.int c2)] rfl ?_
      refine Wk.goto X d6_53 74 (by decide) ?_
      refine Wk.goto X d6_74 19 (by decide) ?_
      exact w_3_4 T _ _ (One.val rfl) (One.val rfl) X (by rw [← hR]; simp [resR, (show ¬ c1 = q from by simp only [Int32.lt_iff_toInt_lt, ← Int32.toInt_inj] at s12 s23 k1 ⊢; omega), (show ¬ c2 = q from by simp only [Int32.lt_iff_toInt_lt, ← Int32.toInt_inj] at s12 s23 k1 ⊢; omega)])
  refine Wk.aloadN X d6_0 1 rfl rfl rfl ?_
  refine Wk.getfield X (t20 hw) Via.refl F_fc d6_1 4 rfl ?_
  intro T X
  refine Wk.iloadN X d6_4 5 rfl rfl ?_
  refine Wk.iaload X A_f ix hx hlo d6_5 6 rfl ?_
  refine Wk.istoreN X d6_6 7 rfl #[.val (.ref a1), .val (.int nd), .val (.int q), .val (.int lo), .unset, .unset, .unset] rfl ?_
  refine Wk.aloadN X d6_7 8 rfl rfl rfl ?_
  refine Wk.getfield X (t20 hw) Via.refl F_fc d6_8 11 rfl ?_
  intro T X
  refine Wk.iloadN X d6_11 12 rfl rfl ?_
  refine Wk.iconst X d6_12 13 rfl (1 : Int32) rfl ?_
  refine Wk.iadd X d6_13 14 rfl ?_
  refine Wk.iaload X A_f (ix + 1) hx1 hhi d6_14 15 rfl ?_
  rcases hc with ⟨rfl, rfl, rfl, rfl⟩ | ⟨rfl, rfl, rfl, rfl⟩ | ⟨rfl, rfl, rfl, rfl⟩ | ⟨rfl, rfl, rfl, rfl⟩ | ⟨rfl, rfl, rfl, rfl⟩ | ⟨rfl, rfl, rfl, rfl⟩ | ⟨rfl, rfl, rfl, rfl⟩
  · show Wk p.tables e below _ (T.setTop (mkF m 15 #[.val (.ref a1), .val (.int nd), .val (.int q), .val (.int (1 : Int32)), .unset, .unset, .unset] [(.int (1 : Int32))]))
    refine Wk.iconst X d6_15 16 rfl (1 : Int32) rfl ?_
    refine Wk.isub X d6_16 17 rfl ?_
    refine Wk.topI (0 : Int32) (by decide) ?_
    refine Wk.istore X d6_17 19 rfl #[.val (.ref a1), .val (.int nd), .val (.int q), .val (.int (1 : Int32)), .val (.int (0 : Int32)), .unset, .unset] rfl ?_
    exact w_1_1 T _ _ One.u One.u X rfl
  · show Wk p.tables e below _ (T.setTop (mkF m 15 #[.val (.ref a1), .val (.int nd), .val (.int q), .val (.int (1 : Int32)), .unset, .unset, .unset] [(.int (2 : Int32))]))
    refine Wk.iconst X d6_15 16 rfl (1 : Int32) rfl ?_
    refine Wk.isub X d6_16 17 rfl ?_
    refine Wk.topI (1 : Int32) (by decide) ?_
    refine Wk.istore X d6_17 19 rfl #[.val (.ref a1), .val (.int nd), .val (.int q), .val (.int (1 : Int32)), .val (.int (1 : Int32)), .unset, .unset] rfl ?_
    exact w_1_2 T _ _ One.u One.u X rfl
  · show Wk p.tables e below _ (T.setTop (mkF m 15 #[.val (.ref a1), .val (.int nd), .val (.int q), .val (.int (1 : Int32)), .unset, .unset, .unset] [(.int (3 : Int32))]))
    refine Wk.iconst X d6_15 16 rfl (1 : Int32) rfl ?_
    refine Wk.isub X d6_16 17 rfl ?_
    refine Wk.topI (2 : Int32) (by decide) ?_
    refine Wk.istore X d6_17 19 rfl #[.val (.ref a1), .val (.int nd), .val (.int q), .val (.int (1 : Int32)), .val (.int (2 : Int32)), .unset, .unset] rfl ?_
    exact w_1_3 T _ _ One.u One.u X rfl
  · show Wk p.tables e below _ (T.setTop (mkF m 15 #[.val (.ref a1), .val (.int nd), .val (.int q), .val (.int (1 : Int32)), .unset, .unset, .unset] [(.int (4 : Int32))]))
    refine Wk.iconst X d6_15 16 rfl (1 : Int32) rfl ?_
    refine Wk.isub X d6_16 17 rfl ?_
    refine Wk.topI (3 : Int32) (by decide) ?_
    refine Wk.istore X d6_17 19 rfl #[.val (.ref a1), .val (.int nd), .val (.int q), .val (.int (1 : Int32)), .val (.int (3 : Int32)), .unset, .unset] rfl ?_
    exact w_1_4 T _ _ One.u One.u X rfl
  · show Wk p.tables e below _ (T.setTop (mkF m 15 #[.val (.ref a1), .val (.int nd), .val (.int q), .val (.int (2 : Int32)), .unset, .unset, .unset] [(.int (4 : Int32))]))
    refine Wk.iconst X d6_15 16 rfl (1 : Int32) rfl ?_
    refine Wk.isub X d6_16 17 rfl ?_
    refine Wk.topI (3 : Int32) (by decide) ?_
    refine Wk.istore X d6_17 19 rfl #[.val (.ref a1), .val (.int nd), .val (.int q), .val (.int (2 : Int32)), .val (.int (3 : Int32)), .unset, .unset] rfl ?_
    exact w_2_4 T _ _ One.u One.u X rfl
  · show Wk p.tables e below _ (T.setTop (mkF m 15 #[.val (.ref a1), .val (.int nd), .val (.int q), .val (.int (3 : Int32)), .unset, .unset, .unset] [(.int (4 : Int32))]))
    refine Wk.iconst X d6_15 16 rfl (1 : Int32) rfl ?_
    refine Wk.isub X d6_16 17 rfl ?_
    refine Wk.topI (3 : Int32) (by decide) ?_
    refine Wk.istore X d6_17 19 rfl #[.val (.ref a1), .val (.int nd), .val (.int q), .val (.int (3 : Int32)), .val (.int (3 : Int32)), .unset, .unset] rfl ?_
    exact w_3_4 T _ _ One.u One.u X rfl
  · show Wk p.tables e below _ (T.setTop (mkF m 15 #[.val (.ref a1), .val (.int nd), .val (.int q), .val (.int (4 : Int32)), .unset, .unset, .unset] [(.int (4 : Int32))]))
    refine Wk.iconst X d6_15 16 rfl (1 : Int32) rfl ?_
    refine Wk.isub X d6_16 17 rfl ?_
    refine Wk.topI (3 : Int32) (by decide) ?_
    refine Wk.istore X d6_17 19 rfl #[.val (.ref a1), .val (.int nd), .val (.int q), .val (.int (4 : Int32)), .val (.int (3 : Int32)), .unset, .unset] rfl ?_
    exact w_4_4 T _ _ One.u One.u X rfl
set_option maxRecDepth 65536 in
set_option maxHeartbeats 40000000 in
theorem con_law (l : Launch) (Z : State) (a0 : Array Value) (hw : ∀ d ∈ tables_1, d.before a0 Z = true) (ws : List Jvm.Cond) (h0 : Heap) (n0 : Nat) (p0 p1 p2 p3 p4 p5 : Int32) (Z0 : n0 ≤ h0.size) :
    Con l x code maxLocals ret room_1 ws Z #[(.int p0), (.int p1), (.int p2), (.int p3), (.int p4), (.int p5)] h0 n0 (fun v _ => v = some (.int 1)) := by
  refine Con.of (plainFor_of_name pn1) ?_
  intro p e s m below meth c T X nm
  rw [show entryFrame m #[(.int p0), (.int p1), (.int p2), (.int p3), (.int p4), (.int p5)] maxLocals = mkF m 0 #[.val (.int p0), .val (.int p1), .val (.int p2), .val (.int p3), .val (.int p4), .val (.int p5), .unset, .unset, .unset, .unset, .unset, .unset, .unset, .unset, .unset, .unset, .unset, .unset, .unset, .unset, .unset] [] from by (first | (simp [entryFrame, mkF, argsToLocals, Value.category, maxLocals]; done) | rfl)]
  refine Wk.iloadN X at_0 1 rfl rfl ?_
  refine Wk.iconst X at_1 2 rfl (3 : Int32) rfl ?_
  refine Wk.iand X at_2 3 rfl ?_
  refine Wk.istore X at_3 5 rfl #[.val (.int p0), .val (.int p1), .val (.int p2), .val (.int p3), .val (.int p4), .val (.int p5), .val (.int (p0 &&& (3 : Int32))), .unset, .unset, .unset, .unset, .unset, .unset, .unset, .unset, .unset, .unset, .unset, .unset, .unset, .unset] rfl ?_
  refine Wk.iloadN X at_5 6 rfl rfl ?_
  refine Wk.iconst X at_6 7 rfl (3 : Int32) rfl ?_
  refine Wk.iand X at_7 8 rfl ?_
  refine Wk.istore X at_8 10 rfl #[.val (.int p0), .val (.int p1), .val (.int p2), .val (.int p3), .val (.int p4), .val (.int p5), .val (.int (p0 &&& (3 : Int32))), .val (.int (p1 &&& (3 : Int32))), .unset, .unset, .unset, .unset, .unset, .unset, .unset, .unset, .unset, .unset, .unset, .unset, .unset] rfl ?_
  refine Wk.iloadN X at_10 11 rfl rfl ?_
  refine Wk.ldcInt X (t0 hw) at_11 13 rfl ?_
  refine Wk.iand X at_13 14 rfl ?_
  refine Wk.istore X at_14 16 rfl #[.val (.int p0), .val (.int p1), .val (.int p2), .val (.int p3), .val (.int p4), .val (.int p5), .val (.int (p0 &&& (3 : Int32))), .val (.int (p1 &&& (3 : Int32))), .val (.int (p2 &&& (2097151 : Int32))), .unset, .unset, .unset, .unset, .unset, .unset, .unset, .unset, .unset, .unset, .unset, .unset] rfl ?_
  refine Wk.iload X at_16 18 rfl rfl ?_
  refine Wk.iconst X at_18 19 rfl (1 : Int32) rfl ?_
  refine Wk.iadd X at_19 20 rfl ?_
  refine Wk.iloadN X at_20 21 rfl rfl ?_
  refine Wk.ldcInt X (t1 hw) at_21 23 rfl ?_
  refine Wk.iand X at_23 24 rfl ?_
  refine Wk.iadd X at_24 25 rfl ?_
  refine Wk.istore X at_25 27 rfl #[.val (.int p0), .val (.int p1), .val (.int p2), .val (.int p3), .val (.int p4), .val (.int p5), .val (.int (p0 &&& (3 : Int32))), .val (.int (p1 &&& (3 : Int32))), .val (.int (p2 &&& (2097151 : Int32))), .val (.int (((p2 &&& (2097151 : Int32)) + (1 : Int32)) + (p3 &&& (65535 : Int32)))), .unset, .unset, .unset, .unset, .unset, .unset, .unset, .unset, .unset, .unset, .unset] rfl ?_
  refine Wk.iload X at_27 29 rfl rfl ?_
  refine Wk.iconst X at_29 30 rfl (1 : Int32) rfl ?_
  refine Wk.iadd X at_30 31 rfl ?_
  refine Wk.iloadN X at_31 32 rfl rfl ?_
  refine Wk.bipush X at_32 34 rfl (16 : Int32) rfl ?_
  refine Wk.iushr X at_34 35 rfl ?_
  refine Wk.ldcInt X (t1 hw) at_35 37 rfl ?_
  refine Wk.iand X at_37 38 rfl ?_
  refine Wk.iadd X at_38 39 rfl ?_
  refine Wk.istore X at_39 41 rfl #[.val (.int p0), .val (.int p1), .val (.int p2), .val (.int p3), .val (.int p4), .val (.int p5), .val (.int (p0 &&& (3 : Int32))), .val (.int (p1 &&& (3 : Int32))), .val (.int (p2 &&& (2097151 : Int32))), .val (.int (((p2 &&& (2097151 : Int32)) + (1 : Int32)) + (p3 &&& (65535 : Int32)))), .val (.int (((((p2 &&& (2097151 : Int32)) + (1 : Int32)) + (p3 &&& (65535 : Int32))) + (1 : Int32)) + (((p3.toUInt32 >>> ((16 : Int32) &&& 31).toUInt32).toInt32) &&& (65535 : Int32)))), .unset, .unset, .unset, .unset, .unset, .unset, .unset, .unset, .unset, .unset] rfl ?_
  have hn := own_and3 p0
  generalize (p0 &&& (3 : Int32)) = n at hn ⊢
  have hd := own_and3 p1
  generalize (p1 &&& (3 : Int32)) = nd at hd ⊢
  obtain ⟨s12, s23⟩ := own_rise p2 p3 ((p3.toUInt32 >>> ((16 : Int32) &&& 31).toUInt32).toInt32)
  generalize (((((p2 &&& (2097151 : Int32)) + (1 : Int32)) + (p3 &&& (65535 : Int32))) + (1 : Int32)) + (((p3.toUInt32 >>> ((16 : Int32) &&& 31).toUInt32).toInt32) &&& (65535 : Int32))) = c3 at s23 ⊢
  generalize (((p2 &&& (2097151 : Int32)) + (1 : Int32)) + (p3 &&& (65535 : Int32))) = c2 at s12 s23 ⊢
  generalize (p2 &&& (2097151 : Int32)) = c1 at s12 ⊢
  show Wk p.tables e below _ (T.setTop (mkF m 41 #[.val (.int p0), .val (.int p1), .val (.int p2), .val (.int p3), .val (.int p4), .val (.int p5), .val (.int n), .val (.int nd), .val (.int c1), .val (.int c2), .val (.int c3), .unset, .unset, .unset, .unset, .unset, .unset, .unset, .unset, .unset, .unset] []))
  refine Wk.iconst X at_41 42 rfl (4 : Int32) rfl ?_
  refine Wk.newarray (aty := .int) X (t2 hw) at_42 44 rfl 4 rfl 4 (Nat.le_refl _) (by decide) (by decide) (by decide) ?_
  intro T h1 r gr X E1 A_r
  have nn_r : n0 ≤ r := by omega
  change Arl Z h1 r .int [.int 0, .int 0, .int 0, .int 0] at A_r
  refine Wk.dup X at_44 45 rfl rfl ?_
  refine Wk.iconst X at_45 46 rfl (0 : Int32) rfl ?_
  refine Wk.ldcInt X (t3 hw) at_46 48 rfl ?_
  refine Wk.iastore X A_r nn_r 0 rfl (Nat.le_of_ble_eq_true rfl) at_48 49 rfl ?_
  intro T h2 X W2
  have A_r := A_r.set W2
  change Arl Z h2 r .int [.int (1114112 : Int32), .int 0, .int 0, .int 0] at A_r
  refine Wk.dup X at_49 50 rfl rfl ?_
  refine Wk.iconst X at_50 51 rfl (1 : Int32) rfl ?_
  refine Wk.iload X at_51 53 rfl rfl ?_
  refine Wk.iastore X A_r nn_r 1 rfl (Nat.le_of_ble_eq_true rfl) at_53 54 rfl ?_
  intro T h3 X W3
  have A_r := A_r.set W3
  change Arl Z h3 r .int [.int (1114112 : Int32), .int c1, .int 0, .int 0] at A_r
  refine Wk.dup X at_54 55 rfl rfl ?_
  refine Wk.iconst X at_55 56 rfl (2 : Int32) rfl ?_
  refine Wk.iload X at_56 58 rfl rfl ?_
  refine Wk.iastore X A_r nn_r 2 rfl (Nat.le_of_ble_eq_true rfl) at_58 59 rfl ?_
  intro T h4 X W4
  have A_r := A_r.set W4
  change Arl Z h4 r .int [.int (1114112 : Int32), .int c1, .int c2, .int 0] at A_r
  refine Wk.dup X at_59 60 rfl rfl ?_
  refine Wk.iconst X at_60 61 rfl (3 : Int32) rfl ?_
  refine Wk.iload X at_61 63 rfl rfl ?_
  refine Wk.iastore X A_r nn_r 3 rfl (Nat.le_of_ble_eq_true rfl) at_63 64 rfl ?_
  intro T h5 X W5
  have A_r := A_r.set W5
  change Arl Z h5 r .int [.int (1114112 : Int32), .int c1, .int c2, .int c3] at A_r
  refine Wk.astore X at_64 66 rfl #[.val (.int p0), .val (.int p1), .val (.int p2), .val (.int p3), .val (.int p4), .val (.int p5), .val (.int n), .val (.int nd), .val (.int c1), .val (.int c2), .val (.int c3), .val (.ref r), .unset, .unset, .unset, .unset, .unset, .unset, .unset, .unset, .unset] rfl rfl ?_
  refine Wk.iconst X at_66 67 rfl (4 : Int32) rfl ?_
  refine Wk.newarray (aty := .long) X (t4 hw) at_67 69 rfl 4 rfl 4 (Nat.le_refl _) (by decide) (by decide) (by decide) ?_
  intro T h6 u gu X E6 A_u
  have ne_ru : r ≠ u := ne_new A_r.lt gu
  have nn_u : n0 ≤ u := nn_new nn_r A_r.lt gu
  have A_r := A_r.ext E6
  change Arl Z h6 u .long [.long 0, .long 0, .long 0, .long 0] at A_u
  refine Wk.dup X at_69 70 rfl rfl ?_
  refine Wk.iconst X at_70 71 rfl (0 : Int32) rfl ?_
  refine Wk.lconst X at_71 72 rfl (0 : Int64) rfl ?_
  refine Wk.lastore X A_u nn_u 0 rfl (Nat.le_of_ble_eq_true rfl) at_72 73 rfl ?_
  intro T h7 X W7
  have A_r := A_r.other W7 ne_ru
  have A_u := A_u.set W7
  change Arl Z h7 u .long [.long (0 : Int64), .long 0, .long 0, .long 0] at A_u
  refine Wk.dup X at_73 74 rfl rfl ?_
  refine Wk.iconst X at_74 75 rfl (1 : Int32) rfl ?_
  refine Wk.lconst X at_75 76 rfl (1 : Int64) rfl ?_
  refine Wk.lastore X A_u nn_u 1 rfl (Nat.le_of_ble_eq_true rfl) at_76 77 rfl ?_
  intro T h8 X W8
  have A_r := A_r.other W8 ne_ru
  have A_u := A_u.set W8
  change Arl Z h8 u .long [.long (0 : Int64), .long (1 : Int64), .long 0, .long 0] at A_u
  refine Wk.dup X at_77 78 rfl rfl ?_
  refine Wk.iconst X at_78 79 rfl (2 : Int32) rfl ?_
  refine Wk.lconst X at_79 80 rfl (1 : Int64) rfl ?_
  refine Wk.lastore X A_u nn_u 2 rfl (Nat.le_of_ble_eq_true rfl) at_80 81 rfl ?_
  intro T h9 X W9
  have A_r := A_r.other W9 ne_ru
  have A_u := A_u.set W9
  change Arl Z h9 u .long [.long (0 : Int64), .long (1 : Int64), .long (1 : Int64), .long 0] at A_u
  refine Wk.dup X at_81 82 rfl rfl ?_
  refine Wk.iconst X at_82 83 rfl (3 : Int32) rfl ?_
  refine Wk.lconst X at_83 84 rfl (1 : Int64) rfl ?_
  refine Wk.lastore X A_u nn_u 3 rfl (Nat.le_of_ble_eq_true rfl) at_84 85 rfl ?_
  intro T h10 X W10
  have A_r := A_r.other W10 ne_ru
  have A_u := A_u.set W10
  change Arl Z h10 u .long [.long (0 : Int64), .long (1 : Int64), .long (1 : Int64), .long (1 : Int64)] at A_u
  refine Wk.astore X at_85 87 rfl #[.val (.int p0), .val (.int p1), .val (.int p2), .val (.int p3), .val (.int p4), .val (.int p5), .val (.int n), .val (.int nd), .val (.int c1), .val (.int c2), .val (.int c3), .val (.ref r), .val (.ref u), .unset, .unset, .unset, .unset, .unset, .unset, .unset, .unset] rfl rfl ?_
  refine Wk.iconst X at_87 88 rfl (5 : Int32) rfl ?_
  refine Wk.newarray (aty := .int) X (t2 hw) at_88 90 rfl 5 rfl 5 (Nat.le_refl _) (by decide) (by decide) (by decide) ?_
  intro T h11 f gf X E11 A_f
  have ne_rf : r ≠ f := ne_new A_r.lt gf
  have ne_uf : u ≠ f := ne_new A_u.lt gf
  have nn_f : n0 ≤ f := nn_new nn_u A_u.lt gf
  have A_r := A_r.ext E11
  have A_u := A_u.ext E11
  change Arl Z h11 f .int [.int 0, .int 0, .int 0, .int 0, .int 0] at A_f
  refine Wk.dup X at_90 91 rfl rfl ?_
  refine Wk.iconst X at_91 92 rfl (0 : Int32) rfl ?_
  refine Wk.iconst X at_92 93 rfl (1 : Int32) rfl ?_
  refine Wk.iastore X A_f nn_f 0 rfl (Nat.le_of_ble_eq_true rfl) at_93 94 rfl ?_
  intro T h12 X W12
  have A_r := A_r.other W12 ne_rf
  have A_u := A_u.other W12 ne_uf
  have A_f := A_f.set W12
  change Arl Z h12 f .int [.int (1 : Int32), .int 0, .int 0, .int 0, .int 0] at A_f
  refine Wk.dup X at_94 95 rfl rfl ?_
  refine Wk.iconst X at_95 96 rfl (1 : Int32) rfl ?_
  refine Wk.iconst X at_96 97 rfl (1 : Int32) rfl ?_
  refine Wk.iload X at_97 99 rfl rfl ?_
  refine Wk.iadd X at_99 100 rfl ?_
  refine Wk.iastore X A_f nn_f 1 rfl (Nat.le_of_ble_eq_true rfl) at_100 101 rfl ?_
  intro T h13 X W13
  have A_r := A_r.other W13 ne_rf
  have A_u := A_u.other W13 ne_uf
  have A_f := A_f.set W13
  change Arl Z h13 f .int [.int (1 : Int32), .int ((1 : Int32) + n), .int 0, .int 0, .int 0] at A_f
  refine Wk.dup X at_101 102 rfl rfl ?_
  refine Wk.iconst X at_102 103 rfl (2 : Int32) rfl ?_
  refine Wk.iconst X at_103 104 rfl (4 : Int32) rfl ?_
  refine Wk.iastore X A_f nn_f 2 rfl (Nat.le_of_ble_eq_true rfl) at_104 105 rfl ?_
  intro T h14 X W14
  have A_r := A_r.other W14 ne_rf
  have A_u := A_u.other W14 ne_uf
  have A_f := A_f.set W14
  change Arl Z h14 f .int [.int (1 : Int32), .int ((1 : Int32) + n), .int (4 : Int32), .int 0, .int 0] at A_f
  refine Wk.dup X at_105 106 rfl rfl ?_
  refine Wk.iconst X at_106 107 rfl (3 : Int32) rfl ?_
  refine Wk.iconst X at_107 108 rfl (4 : Int32) rfl ?_
  refine Wk.iastore X A_f nn_f 3 rfl (Nat.le_of_ble_eq_true rfl) at_108 109 rfl ?_
  intro T h15 X W15
  have A_r := A_r.other W15 ne_rf
  have A_u := A_u.other W15 ne_uf
  have A_f := A_f.set W15
  change Arl Z h15 f .int [.int (1 : Int32), .int ((1 : Int32) + n), .int (4 : Int32), .int (4 : Int32), .int 0] at A_f
  refine Wk.dup X at_109 110 rfl rfl ?_
  refine Wk.iconst X at_110 111 rfl (4 : Int32) rfl ?_
  refine Wk.iconst X at_111 112 rfl (4 : Int32) rfl ?_
  refine Wk.iastore X A_f nn_f 4 rfl (Nat.le_of_ble_eq_true rfl) at_112 113 rfl ?_
  intro T h16 X W16
  have A_r := A_r.other W16 ne_rf
  have A_u := A_u.other W16 ne_uf
  have A_f := A_f.set W16
  change Arl Z h16 f .int [.int (1 : Int32), .int ((1 : Int32) + n), .int (4 : Int32), .int (4 : Int32), .int (4 : Int32)] at A_f
  obtain ⟨ix, lo, hi, l', u', hx, hx1, hlo, hhi, hc⟩ : ∃ (ix : Nat) (lo hi : Int32) (l' u' : Nat), nd.toInt = ix ∧ (nd + (1 : Int32)).toInt = ((ix + 1 : Nat) : Int) ∧ ([.int (1 : Int32), .int ((1 : Int32) + n), .int (4 : Int32), .int (4 : Int32), .int (4 : Int32)] : List Value)[ix]? = some (.int lo) ∧ ([.int (1 : Int32), .int ((1 : Int32) + n), .int (4 : Int32), .int (4 : Int32), .int (4 : Int32)] : List Value)[ix + 1]? = some (.int hi) ∧ Rng lo hi l' u' := by
    rcases hd with rfl | rfl | rfl | rfl
    · rcases hn with rfl | rfl | rfl | rfl
      · exact ⟨0, 1, 1, 1, 1, rfl, rfl, rfl, rfl, Or.inl ⟨rfl, rfl, rfl, rfl⟩⟩
      · exact ⟨0, 1, 2, 1, 2, rfl, rfl, rfl, rfl, Or.inr (Or.inl ⟨rfl, rfl, rfl, rfl⟩)⟩
      · exact ⟨0, 1, 3, 1, 3, rfl, rfl, rfl, rfl, Or.inr (Or.inr (Or.inl ⟨rfl, rfl, rfl, rfl⟩))⟩
      · exact ⟨0, 1, 4, 1, 4, rfl, rfl, rfl, rfl, Or.inr (Or.inr (Or.inr (Or.inl ⟨rfl, rfl, rfl, rfl⟩)))⟩
    · rcases hn with rfl | rfl | rfl | rfl
      · exact ⟨1, 1, 4, 1, 4, rfl, rfl, rfl, rfl, Or.inr (Or.inr (Or.inr (Or.inl ⟨rfl, rfl, rfl, rfl⟩)))⟩
      · exact ⟨1, 2, 4, 2, 4, rfl, rfl, rfl, rfl, Or.inr (Or.inr (Or.inr (Or.inr (Or.inl ⟨rfl, rfl, rfl, rfl⟩))))⟩
      · exact ⟨1, 3, 4, 3, 4, rfl, rfl, rfl, rfl, Or.inr (Or.inr (Or.inr (Or.inr (Or.inr (Or.inl ⟨rfl, rfl, rfl, rfl⟩)))))⟩
      · exact ⟨1, 4, 4, 4, 4, rfl, rfl, rfl, rfl, Or.inr (Or.inr (Or.inr (Or.inr (Or.inr (Or.inr ⟨rfl, rfl, rfl, rfl⟩)))))⟩
    · exact ⟨2, 4, 4, 4, 4, rfl, rfl, rfl, rfl, Or.inr (Or.inr (Or.inr (Or.inr (Or.inr (Or.inr ⟨rfl, rfl, rfl, rfl⟩)))))⟩
    · exact ⟨3, 4, 4, 4, 4, rfl, rfl, rfl, rfl, Or.inr (Or.inr (Or.inr (Or.inr (Or.inr (Or.inr ⟨rfl, rfl, rfl, rfl⟩)))))⟩
  refine Wk.astore X at_113 115 rfl #[.val (.int p0), .val (.int p1), .val (.int p2), .val (.int p3), .val (.int p4), .val (.int p5), .val (.int n), .val (.int nd), .val (.int c1), .val (.int c2), .val (.int c3), .val (.ref r), .val (.ref u), .val (.ref f), .unset, .unset, .unset, .unset, .unset, .unset, .unset] rfl rfl ?_
  refine Wk.aload X at_115 117 rfl rfl rfl ?_
  refine Wk.iload X at_117 119 rfl rfl ?_
  refine Wk.iaload X A_f ix hx hlo at_119 120 rfl ?_
  refine Wk.istore X at_120 122 rfl #[.val (.int p0), .val (.int p1), .val (.int p2), .val (.int p3), .val (.int p4), .val (.int p5), .val (.int n), .val (.int nd), .val (.int c1), .val (.int c2), .val (.int c3), .val (.ref r), .val (.ref u), .val (.ref f), .val (.int lo), .unset, .unset, .unset, .unset, .unset, .unset] rfl ?_
  refine Wk.aload X at_122 124 rfl rfl rfl ?_
  refine Wk.iload X at_124 126 rfl rfl ?_
  refine Wk.iconst X at_126 127 rfl (1 : Int32) rfl ?_
  refine Wk.iadd X at_127 128 rfl ?_
  refine Wk.iaload X A_f (ix + 1) hx1 hhi at_128 129 rfl ?_
  refine Wk.istore X at_129 131 rfl #[.val (.int p0), .val (.int p1), .val (.int p2), .val (.int p3), .val (.int p4), .val (.int p5), .val (.int n), .val (.int nd), .val (.int c1), .val (.int c2), .val (.int c3), .val (.ref r), .val (.ref u), .val (.ref f), .val (.int lo), .val (.int hi), .unset, .unset, .unset, .unset, .unset] rfl ?_
  refine Wk.new X (t5 hw) (t6 hw) (t7 hw) at_131 134 rfl (by decide) (by decide) ?_
  intro T h17 q0 gq0 X E17 E D
  have ne_r : r ≠ q0 := ne_new A_r.lt gq0
  have ne_u : u ≠ q0 := ne_new A_u.lt gq0
  have ne_f : f ≠ q0 := ne_new A_f.lt gq0
  have nq : n0 ≤ q0 := nn_new nn_f A_f.lt gq0
  have A_r := A_r.ext E17
  have A_u := A_u.ext E17
  have A_f := A_f.ext E17
  have N : Kn h17 q0 := Kn.of (D (Or.inr (t15 hw)) (ty := .int) (by decide))
  refine Wk.dup X at_134 135 rfl rfl ?_
  refine Wk.iconst X at_135 136 rfl (3 : Int32) rfl ?_
  refine Wk.aload X at_136 138 rfl rfl rfl ?_
  refine Wk.aload X at_138 140 rfl rfl rfl ?_
  refine Wk.aload X at_140 142 rfl rfl rfl ?_
  refine Wk.callI X rfl (t8 hw) (t9 hw) (t7 hw) (t10 hw) (con_ctor l Z a0 hw [] h17 n0 q0 r u f 3 n 1114112 c1 c2 c3 hn E N nq A_r A_u A_f ne_r ne_u ne_f) (by decide) pd0 [(.int (3 : Int32)), (.ref r), (.ref u), (.ref f)] [(.ref q0)] rfl rfl rfl rfl 1 (Nat.le_of_eq rfl) (by decide) (by decide) (by decide) (by decide) 6 27 rfl rfl at_142 145 rfl ?_
  rintro _ T hh X ⟨rfl, KK, F_cps, F_fc⟩
  show Wk p.tables e below _ (T.setTop (mkF m 145 #[.val (.int p0), .val (.int p1), .val (.int p2), .val (.int p3), .val (.int p4), .val (.int p5), .val (.int n), .val (.int nd), .val (.int c1), .val (.int c2), .val (.int c3), .val (.ref r), .val (.ref u), .val (.ref f), .val (.int lo), .val (.int hi), .unset, .unset, .unset, .unset, .unset] [(.ref q0)]))
  have A_r := A_r.keep KK (ninS ne_r nin0)
  have A_u := A_u.keep KK (ninS ne_u nin0)
  have A_f := A_f.keep KK (ninS ne_f nin0)
  have E := Exa.keep E KK
  refine Wk.astore X at_145 147 rfl #[.val (.int p0), .val (.int p1), .val (.int p2), .val (.int p3), .val (.int p4), .val (.int p5), .val (.int n), .val (.int nd), .val (.int c1), .val (.int c2), .val (.int c3), .val (.ref r), .val (.ref u), .val (.ref f), .val (.int lo), .val (.int hi), .val (.ref q0), .unset, .unset, .unset, .unset] rfl rfl ?_
  refine Wk.iload X at_147 149 rfl rfl ?_
  refine Wk.iconst X at_149 150 rfl (3 : Int32) rfl ?_
  refine Wk.iand X at_150 151 rfl ?_
  refine Wk.istore X at_151 153 rfl #[.val (.int p0), .val (.int p1), .val (.int p2), .val (.int p3), .val (.int p4), .val (.int p5), .val (.int n), .val (.int nd), .val (.int c1), .val (.int c2), .val (.int c3), .val (.ref r), .val (.ref u), .val (.ref f), .val (.int lo), .val (.int hi), .val (.ref q0), .val (.int (p4 &&& (3 : Int32))), .unset, .unset, .unset] rfl ?_
  refine Wk.iload X at_153 155 rfl rfl ?_
  refine Wk.iconst X at_155 156 rfl (2 : Int32) rfl ?_
  refine Wk.iushr X at_156 157 rfl ?_
  refine Wk.iconst X at_157 158 rfl (3 : Int32) rfl ?_
  refine Wk.iand X at_158 159 rfl ?_
  refine Wk.iconst X at_159 160 rfl (1 : Int32) rfl ?_
  refine Wk.isub X at_160 161 rfl ?_
  refine Wk.istore X at_161 163 rfl #[.val (.int p0), .val (.int p1), .val (.int p2), .val (.int p3), .val (.int p4), .val (.int p5), .val (.int n), .val (.int nd), .val (.int c1), .val (.int c2), .val (.int c3), .val (.ref r), .val (.ref u), .val (.ref f), .val (.int lo), .val (.int hi), .val (.ref q0), .val (.int (p4 &&& (3 : Int32))), .val (.int ((((p4.toUInt32 >>> ((2 : Int32) &&& 31).toUInt32).toInt32) &&& (3 : Int32)) - (1 : Int32))), .unset, .unset] rfl ?_
  refine Wk.iload X at_163 165 rfl rfl ?_
  refine Wk.joinI (fun q => T.setTop (mkF m 214 #[.val (.int p0), .val (.int p1), .val (.int p2), .val (.int p3), .val (.int p4), .val (.int p5), .val (.int n), .val (.int nd), .val (.int c1), .val (.int c2), .val (.int c3), .val (.ref r), .val (.ref u), .val (.ref f), .val (.int lo), .val (.int hi), .val (.ref q0), .val (.int (p4 &&& (3 : Int32))), .val (.int ((((p4.toUInt32 >>> ((2 : Int32) &&& 31).toUInt32).toInt32) &&& (3 : Int32)) - (1 : Int32))), .val (.int q), .unset] [])) ?_ ?_
  · intro q
    show Wk p.tables e below _ (T.setTop (mkF m 214 #[.val (.int p0), .val (.int p1), .val (.int p2), .val (.int p3), .val (.int p4), .val (.int p5), .val (.int n), .val (.int nd), .val (.int c1), .val (.int c2), .val (.int c3), .val (.ref r), .val (.ref u), .val (.ref f), .val (.int lo), .val (.int hi), .val (.ref q0), .val (.int (p4 &&& (3 : Int32))), .val (.int ((((p4.toUInt32 >>> ((2 : Int32) &&& 31).toUInt32).toInt32) &&& (3 : Int32)) - (1 : Int32))), .val (.int q), .unset] []))
    refine Wk.iconst X at_214 215 rfl (-1 : Int32) rfl ?_
    refine Wk.istore X at_215 217 rfl #[.val (.int p0), .val (.int p1), .val (.int p2), .val (.int p3), .val (.int p4), .val (.int p5), .val (.int n), .val (.int nd), .val (.int c1), .val (.int c2), .val (.int c3), .val (.ref r), .val (.ref u), .val (.ref f), .val (.int lo), .val (.int hi), .val (.ref q0), .val (.int (p4 &&& (3 : Int32))), .val (.int ((((p4.toUInt32 >>> ((2 : Int32) &&& 31).toUInt32).toInt32) &&& (3 : Int32)) - (1 : Int32))), .val (.int q), .val (.int (-1 : Int32))] rfl ?_
    refine Wk.join (T.setTop (mkF m 239 #[.val (.int p0), .val (.int p1), .val (.int p2), .val (.int p3), .val (.int p4), .val (.int p5), .val (.int n), .val (.int nd), .val (.int c1), .val (.int c2), .val (.int c3), .val (.ref r), .val (.ref u), .val (.ref f), .val (.int lo), .val (.int hi), .val (.ref q0), .val (.int (p4 &&& (3 : Int32))), .val (.int ((((p4.toUInt32 >>> ((2 : Int32) &&& 31).toUInt32).toInt32) &&& (3 : Int32)) - (1 : Int32))), .val (.int q), .val (.int (exF (1 : Int32) lo hi c1 q (-1 : Int32)))] [])) True ?_ ?_
    · intro _
      refine Wk.join (T.setTop (mkF m 261 #[.val (.int p0), .val (.int p1), .val (.int p2), .val (.int p3), .val (.int p4), .val (.int p5), .val (.int n), .val (.int nd), .val (.int c1), .val (.int c2), .val (.int c3), .val (.ref r), .val (.ref u), .val (.ref f), .val (.int lo), .val (.int hi), .val (.ref q0), .val (.int (p4 &&& (3 : Int32))), .val (.int ((((p4.toUInt32 >>> ((2 : Int32) &&& 31).toUInt32).toInt32) &&& (3 : Int32)) - (1 : Int32))), .val (.int q), .val (.int (exF (2 : Int32) lo hi c2 q (exF (1 : Int32) lo hi c1 q (-1 : Int32))))] [])) True ?_ ?_
      · intro _
        refine Wk.join (T.setTop (mkF m 283 #[.val (.int p0), .val (.int p1), .val (.int p2), .val (.int p3), .val (.int p4), .val (.int p5), .val (.int n), .val (.int nd), .val (.int c1), .val (.int c2), .val (.int c3), .val (.ref r), .val (.ref u), .val (.ref f), .val (.int lo), .val (.int hi), .val (.ref q0), .val (.int (p4 &&& (3 : Int32))), .val (.int ((((p4.toUInt32 >>> ((2 : Int32) &&& 31).toUInt32).toInt32) &&& (3 : Int32)) - (1 : Int32))), .val (.int q), .val (.int (exF (3 : Int32) lo hi c3 q (exF (2 : Int32) lo hi c2 q (exF (1 : Int32) lo hi c1 q (-1 : Int32)))))] [])) True ?_ ?_
        · intro _
          refine Wk.aload X at_283 285 rfl rfl rfl ?_
          refine Wk.iload X at_285 287 rfl rfl ?_
          refine Wk.iload X at_287 289 rfl rfl ?_
          refine Wk.callV X (t26 hw) (t27 hw) (t29 hw) (t28 hw) (t7 hw) (t30 hw) E (con_child l Z a0 hw [] hh n0 q0 r f nd q 1114112 c1 c2 c3 lo hi ix l' u' _ F_cps F_fc A_r A_f hx hx1 hlo hhi hc s12 s23) (by decide) pd1 [(.int nd), (.int q)] [] rfl rfl rfl rfl 0 (Nat.le_of_eq rfl) (by decide) (by decide) (by decide) (by decide) 6 27 rfl rfl at_289 292 rfl ?_
          rintro _ T _ X ⟨rfl, rfl⟩
          show Wk p.tables e below _ (T.setTop (mkF m 292 #[.val (.int p0), .val (.int p1), .val (.int p2), .val (.int p3), .val (.int p4), .val (.int p5), .val (.int n), .val (.int nd), .val (.int c1), .val (.int c2), .val (.int c3), .val (.ref r), .val (.ref u), .val (.ref f), .val (.int lo), .val (.int hi), .val (.ref q0), .val (.int (p4 &&& (3 : Int32))), .val (.int ((((p4.toUInt32 >>> ((2 : Int32) &&& 31).toUInt32).toInt32) &&& (3 : Int32)) - (1 : Int32))), .val (.int q), .val (.int (exF (3 : Int32) lo hi c3 q (exF (2 : Int32) lo hi c2 q (exF (1 : Int32) lo hi c1 q (-1 : Int32)))))] [(.int (resR l' u' c1 c2 c3 q))]))
          refine Wk.iload X at_292 294 rfl rfl ?_
          refine Wk.icmpF X at_294 297 rfl (show (resR l' u' c1 c2 c3 q) = (exF (3 : Int32) lo hi c3 q (exF (2 : Int32) lo hi c2 q (exF (1 : Int32) lo hi c1 q (-1 : Int32)))) from (own_exp c1 c2 c3 q hc)) ?_
          refine Wk.iconst X at_297 298 rfl (1 : Int32) rfl ?_
          refine Wk.goto X at_298 302 (by decide) ?_
          exact Wk.zreturn X at_302 (by decide) (by decide) (Or.inr rfl) rfl
        · intro J
          refine Wk.iload X at_261 263 rfl rfl ?_
          refine Wk.iconst X at_263 264 rfl (3 : Int32) rfl ?_
          refine Wk.icmp X at_264 283 267 (by decide) rfl ?_ ?_
          · intro m1; change (3 : Int32) < lo at m1
            rw [show (exF (3 : Int32) lo hi c3 q (exF (2 : Int32) lo hi c2 q (exF (1 : Int32) lo hi c1 q (-1 : Int32)))) = (exF (2 : Int32) lo hi c2 q (exF (1 : Int32) lo hi c1 q (-1 : Int32))) from by simp [exF, m1]] at J
            exact J trivial
          · intro m1; change ¬ (3 : Int32) < lo at m1
            refine Wk.iconst X at_267 268 rfl (3 : Int32) rfl ?_
            refine Wk.iload X at_268 270 rfl rfl ?_
            refine Wk.icmp X at_270 283 273 (by decide) rfl ?_ ?_
            · intro m2; change ¬ (3 : Int32) < hi at m2
              rw [show (exF (3 : Int32) lo hi c3 q (exF (2 : Int32) lo hi c2 q (exF (1 : Int32) lo hi c1 q (-1 : Int32)))) = (exF (2 : Int32) lo hi c2 q (exF (1 : Int32) lo hi c1 q (-1 : Int32))) from by simp [exF, m1, m2]] at J
              exact J trivial
            · intro m2; change (3 : Int32) < hi at m2
              refine Wk.iload X at_273 275 rfl rfl ?_
              refine Wk.iload X at_275 277 rfl rfl ?_
              refine Wk.icmp X at_277 283 280 (by decide) rfl ?_ ?_
              · intro m3; change ¬ c3 = q at m3
                rw [show (exF (3 : Int32) lo hi c3 q (exF (2 : Int32) lo hi c2 q (exF (1 : Int32) lo hi c1 q (-1 : Int32)))) = (exF (2 : Int32) lo hi c2 q (exF (1 : Int32) lo hi c1 q (-1 : Int32))) from by simp [exF, m1, m2, m3]] at J
                exact J trivial
              · intro m3; change c3 = q at m3
                refine Wk.iconst X at_280 281 rfl (3 : Int32) rfl ?_
                refine Wk.istore X at_281 283 rfl #[.val (.int p0), .val (.int p1), .val (.int p2), .val (.int p3), .val (.int p4), .val (.int p5), .val (.int n), .val (.int nd), .val (.int c1), .val (.int c2), .val (.int c3), .val (.ref r), .val (.ref u), .val (.ref f), .val (.int lo), .val (.int hi), .val (.ref q0), .val (.int (p4 &&& (3 : Int32))), .val (.int ((((p4.toUInt32 >>> ((2 : Int32) &&& 31).toUInt32).toInt32) &&& (3 : Int32)) - (1 : Int32))), .val (.int q), .val (.int (3 : Int32))] rfl ?_
                rw [show (exF (3 : Int32) lo hi c3 q (exF (2 : Int32) lo hi c2 q (exF (1 : Int32) lo hi c1 q (-1 : Int32)))) = (3 : Int32) from by simp [exF, m1, m2, m3]] at J
                exact J trivial
      · intro J
        refine Wk.iload X at_239 241 rfl rfl ?_
        refine Wk.iconst X at_241 242 rfl (2 : Int32) rfl ?_
        refine Wk.icmp X at_242 261 245 (by decide) rfl ?_ ?_
        · intro m1; change (2 : Int32) < lo at m1
          rw [show (exF (2 : Int32) lo hi c2 q (exF (1 : Int32) lo hi c1 q (-1 : Int32))) = (exF (1 : Int32) lo hi c1 q (-1 : Int32)) from by simp [exF, m1]] at J
          exact J trivial
        · intro m1; change ¬ (2 : Int32) < lo at m1
          refine Wk.iconst X at_245 246 rfl (2 : Int32) rfl ?_
          refine Wk.iload X at_246 248 rfl rfl ?_
          refine Wk.icmp X at_248 261 251 (by decide) rfl ?_ ?_
          · intro m2; change ¬ (2 : Int32) < hi at m2
            rw [show (exF (2 : Int32) lo hi c2 q (exF (1 : Int32) lo hi c1 q (-1 : Int32))) = (exF (1 : Int32) lo hi c1 q (-1 : Int32)) from by simp [exF, m1, m2]] at J
            exact J trivial
          · intro m2; change (2 : Int32) < hi at m2
            refine Wk.iload X at_251 253 rfl rfl ?_
            refine Wk.iload X at_253 255 rfl rfl ?_
            refine Wk.icmp X at_255 261 258 (by decide) rfl ?_ ?_
            · intro m3; change ¬ c2 = q at m3
              rw [show (exF (2 : Int32) lo hi c2 q (exF (1 : Int32) lo hi c1 q (-1 : Int32))) = (exF (1 : Int32) lo hi c1 q (-1 : Int32)) from by simp [exF, m1, m2, m3]] at J
              exact J trivial
            · intro m3; change c2 = q at m3
              refine Wk.iconst X at_258 259 rfl (2 : Int32) rfl ?_
              refine Wk.istore X at_259 261 rfl #[.val (.int p0), .val (.int p1), .val (.int p2), .val (.int p3), .val (.int p4), .val (.int p5), .val (.int n), .val (.int nd), .val (.int c1), .val (.int c2), .val (.int c3), .val (.ref r), .val (.ref u), .val (.ref f), .val (.int lo), .val (.int hi), .val (.ref q0), .val (.int (p4 &&& (3 : Int32))), .val (.int ((((p4.toUInt32 >>> ((2 : Int32) &&& 31).toUInt32).toInt32) &&& (3 : Int32)) - (1 : Int32))), .val (.int q), .val (.int (2 : Int32))] rfl ?_
              rw [show (exF (2 : Int32) lo hi c2 q (exF (1 : Int32) lo hi c1 q (-1 : Int32))) = (2 : Int32) from by simp [exF, m1, m2, m3]] at J
              exact J trivial
    · intro J
      refine Wk.iload X at_217 219 rfl rfl ?_
      refine Wk.iconst X at_219 220 rfl (1 : Int32) rfl ?_
      refine Wk.icmp X at_220 239 223 (by decide) rfl ?_ ?_
      · intro m1; change (1 : Int32) < lo at m1
        rw [show (exF (1 : Int32) lo hi c1 q (-1 : Int32)) = (-1 : Int32) from by simp [exF, m1]] at J
        exact J trivial
      · intro m1; change ¬ (1 : Int32) < lo at m1
        refine Wk.iconst X at_223 224 rfl (1 : Int32) rfl ?_
        refine Wk.iload X at_224 226 rfl rfl ?_
        refine Wk.icmp X at_226 239 229 (by decide) rfl ?_ ?_
        · intro m2; change ¬ (1 : Int32) < hi at m2
          rw [show (exF (1 : Int32) lo hi c1 q (-1 : Int32)) = (-1 : Int32) from by simp [exF, m1, m2]] at J
          exact J trivial
        · intro m2; change (1 : Int32) < hi at m2
          refine Wk.iload X at_229 231 rfl rfl ?_
          refine Wk.iload X at_231 233 rfl rfl ?_
          refine Wk.icmp X at_233 239 236 (by decide) rfl ?_ ?_
          · intro m3; change ¬ c1 = q at m3
            rw [show (exF (1 : Int32) lo hi c1 q (-1 : Int32)) = (-1 : Int32) from by simp [exF, m1, m2, m3]] at J
            exact J trivial
          · intro m3; change c1 = q at m3
            refine Wk.iconst X at_236 237 rfl (1 : Int32) rfl ?_
            refine Wk.istore X at_237 239 rfl #[.val (.int p0), .val (.int p1), .val (.int p2), .val (.int p3), .val (.int p4), .val (.int p5), .val (.int n), .val (.int nd), .val (.int c1), .val (.int c2), .val (.int c3), .val (.ref r), .val (.ref u), .val (.ref f), .val (.int lo), .val (.int hi), .val (.ref q0), .val (.int (p4 &&& (3 : Int32))), .val (.int ((((p4.toUInt32 >>> ((2 : Int32) &&& 31).toUInt32).toInt32) &&& (3 : Int32)) - (1 : Int32))), .val (.int q), .val (.int (1 : Int32))] rfl ?_
            rw [show (exF (1 : Int32) lo hi c1 q (-1 : Int32)) = (1 : Int32) from by simp [exF, m1, m2, m3]] at J
            exact J trivial
  · intro J
    refine Wk.ifc X at_165 175 168 (by decide) rfl ?_ ?_
    · intro m0; change ¬ (p4 &&& (3 : Int32)) = (0 : Int32) at m0
      refine Wk.iload X at_175 177 rfl rfl ?_
      refine Wk.iconst X at_177 178 rfl (1 : Int32) rfl ?_
      refine Wk.icmp X at_178 191 181 (by decide) rfl ?_ ?_
      · intro m1; change ¬ (p4 &&& (3 : Int32)) = (1 : Int32) at m1
        refine Wk.iload X at_191 193 rfl rfl ?_
        refine Wk.iconst X at_193 194 rfl (2 : Int32) rfl ?_
        refine Wk.icmp X at_194 207 197 (by decide) rfl ?_ ?_
        · intro m2; change ¬ (p4 &&& (3 : Int32)) = (2 : Int32) at m2
          refine Wk.iload X at_207 209 rfl rfl ?_
          refine Wk.iload X at_209 211 rfl rfl ?_
          refine Wk.iadd X at_211 212 rfl ?_
          refine Wk.istore X at_212 214 rfl #[.val (.int p0), .val (.int p1), .val (.int p2), .val (.int p3), .val (.int p4), .val (.int p5), .val (.int n), .val (.int nd), .val (.int c1), .val (.int c2), .val (.int c3), .val (.ref r), .val (.ref u), .val (.ref f), .val (.int lo), .val (.int hi), .val (.ref q0), .val (.int (p4 &&& (3 : Int32))), .val (.int ((((p4.toUInt32 >>> ((2 : Int32) &&& 31).toUInt32).toInt32) &&& (3 : Int32)) - (1 : Int32))), .val (.int (c3 + ((((p4.toUInt32 >>> ((2 : Int32) &&& 31).toUInt32).toInt32) &&& (3 : Int32)) - (1 : Int32)))), .unset] rfl ?_
          exact J (c3 + ((((p4.toUInt32 >>> ((2 : Int32) &&& 31).toUInt32).toInt32) &&& (3 : Int32)) - (1 : Int32)))
        · intro m2; change (p4 &&& (3 : Int32)) = (2 : Int32) at m2
          refine Wk.iload X at_197 199 rfl rfl ?_
          refine Wk.iload X at_199 201 rfl rfl ?_
          refine Wk.iadd X at_201 202 rfl ?_
          refine Wk.istore X at_202 204 rfl #[.val (.int p0), .val (.int p1), .val (.int p2), .val (.int p3), .val (.int p4), .val (.int p5), .val (.int n), .val (.int nd), .val (.int c1), .val (.int c2), .val (.int c3), .val (.ref r), .val (.ref u), .val (.ref f), .val (.int lo), .val (.int hi), .val (.ref q0), .val (.int (p4 &&& (3 : Int32))), .val (.int ((((p4.toUInt32 >>> ((2 : Int32) &&& 31).toUInt32).toInt32) &&& (3 : Int32)) - (1 : Int32))), .val (.int (c2 + ((((p4.toUInt32 >>> ((2 : Int32) &&& 31).toUInt32).toInt32) &&& (3 : Int32)) - (1 : Int32)))), .unset] rfl ?_
          refine Wk.goto X at_204 214 (by decide) ?_
          exact J (c2 + ((((p4.toUInt32 >>> ((2 : Int32) &&& 31).toUInt32).toInt32) &&& (3 : Int32)) - (1 : Int32)))
      · intro m1; change (p4 &&& (3 : Int32)) = (1 : Int32) at m1
        refine Wk.iload X at_181 183 rfl rfl ?_
        refine Wk.iload X at_183 185 rfl rfl ?_
        refine Wk.iadd X at_185 186 rfl ?_
        refine Wk.istore X at_186 188 rfl #[.val (.int p0), .val (.int p1), .val (.int p2), .val (.int p3), .val (.int p4), .val (.int p5), .val (.int n), .val (.int nd), .val (.int c1), .val (.int c2), .val (.int c3), .val (.ref r), .val (.ref u), .val (.ref f), .val (.int lo), .val (.int hi), .val (.ref q0), .val (.int (p4 &&& (3 : Int32))), .val (.int ((((p4.toUInt32 >>> ((2 : Int32) &&& 31).toUInt32).toInt32) &&& (3 : Int32)) - (1 : Int32))), .val (.int (c1 + ((((p4.toUInt32 >>> ((2 : Int32) &&& 31).toUInt32).toInt32) &&& (3 : Int32)) - (1 : Int32)))), .unset] rfl ?_
        refine Wk.goto X at_188 214 (by decide) ?_
        exact J (c1 + ((((p4.toUInt32 >>> ((2 : Int32) &&& 31).toUInt32).toInt32) &&& (3 : Int32)) - (1 : Int32)))
    · intro m0; change (p4 &&& (3 : Int32)) = (0 : Int32) at m0
      refine Wk.iload X at_168 170 rfl rfl ?_
      refine Wk.istore X at_170 172 rfl #[.val (.int p0), .val (.int p1), .val (.int p2), .val (.int p3), .val (.int p4), .val (.int p5), .val (.int n), .val (.int nd), .val (.int c1), .val (.int c2), .val (.int c3), .val (.ref r), .val (.ref u), .val (.ref f), .val (.int lo), .val (.int hi), .val (.ref q0), .val (.int (p4 &&& (3 : Int32))), .val (.int ((((p4.toUInt32 >>> ((2 : Int32) &&& 31).toUInt32).toInt32) &&& (3 : Int32)) - (1 : Int32))), .val (.int p5), .unset] rfl ?_
      refine Wk.goto X at_172 214 (by decide) ?_
      exact J p5
set_option maxRecDepth 65536 in
set_option maxHeartbeats 40000000 in
theorem comes_1 {Post : Tables → Env → Array Value → State → Outcome → State → Prop} (hpost : ∀ tb e args s v u, (limb_1_1.after args s (.returned v) u = true ∧ limb_1_2.after args s (.returned v) u = true ∧ True) → FrameEnd s (.returned v) u (Jvm.fieldLocs frame_1_writes args s ++ Jvm.arrayLocs frame_1_arrays args s ++ Jvm.staticLocs frame_1_statics s) 24 128 → Post tb e args s (.returned v) u) :
    ArmFor flags0 classFile x code maxLocals ret World_1 tables_1 room_1 Calls_1 rest_1 Pre_1 Post := by
  intro l hfl _ _ p e ha hc hk s m args below hf hA hF happ hP
  obtain ⟨hcalls, hrest, hpre⟩ := hP
  obtain ⟨-, -, -, hnamed, -, -, -, hat⟩ := (Spec.applies_iff hf).mp happ
  obtain ⟨hg, hn⟩ := and_e (Cond.before_iff.mp (show (Jvm.Cond.and given_1 narrow_1).before args s = true from hpre))
  obtain ⟨g0, r0⟩ := and_e hg
  obtain ⟨g1, r1⟩ := and_e r0
  obtain ⟨g2, r2⟩ := and_e r1
  obtain ⟨g3, r3⟩ := and_e r2
  obtain ⟨g4, r4⟩ := and_e r3
  obtain ⟨g5, r5⟩ := and_e r4
  have g6 := r5
  obtain ⟨w0, w1, w2, w3, w4, w5, rfl⟩ : ∃ w0 w1 w2 w3 w4 w5 : Value, args = #[w0, w1, w2, w3, w4, w5] := by
    have hs : args.size = 6 := by simpa [Cond.value, given_1] using g0
    obtain ⟨L⟩ := args
    match L, hs with
    | [w0, w1, w2, w3, w4, w5], _ => exact ⟨w0, w1, w2, w3, w4, w5, rfl⟩
  have hw := fun d (hd : d ∈ tables_1) => atoms_spec (ws := Jvm.Cond.code x code maxLocals ret :: tables_1) hat d (List.mem_cons_of_mem _ hd)
  obtain ⟨i0, ei0⟩ := is_v g1
  obtain rfl : w0 = (.int i0) := Option.some.inj ei0
  obtain ⟨i1, ei1⟩ := is_v g2
  obtain rfl : w1 = (.int i1) := Option.some.inj ei1
  obtain ⟨i2, ei2⟩ := is_v g3
  obtain rfl : w2 = (.int i2) := Option.some.inj ei2
  obtain ⟨i3, ei3⟩ := is_v g4
  obtain rfl : w3 = (.int i3) := Option.some.inj ei3
  obtain ⟨i4, ei4⟩ := is_v g5
  obtain rfl : w4 = (.int i4) := Option.some.inj ei4
  obtain ⟨i5, ei5⟩ := is_v g6
  obtain rfl : w5 = (.int i5) := Option.some.inj ei5
  obtain ⟨n, o, h1, h2, h3, _, L, rfl, ⟨rfl, N⟩, hq⟩ := con_law l s _ hw tables_1 s.heap s.heap.size i0 i1 i2 i3 i4 i5 (Nat.le_refl _) p e ha hc hk s m _ below hf ((Spec.applies_iff_loose hf).mp happ).1 ⟨rfl, State.Warmed39.refl s, rfl⟩ trivial
  refine ⟨n, _, h1, h2, h3, hpost _ _ _ _ _ _ ⟨Cond.after_iff.mpr rfl, Cond.after_iff.mpr (eq_i res_at (Term.int_eval (1)) rfl), trivial⟩ ⟨hq.1, hq.2.1, (hq.2.2.sift fun y hy => Or.inr (N y hy)).mono (by decide) (by decide)⟩⟩
theorem main_1_1 : Claimed_1_1 := comes_1 fun _ _ _ _ _ _ h hF => ⟨h.1, hF⟩
theorem main_1_2 : Claimed_1_2 := comes_1 fun _ _ _ _ _ _ h hF => ⟨h.2.1, hF⟩
end Jvm.Pilot.@@N@@
namespace Jvm.Pilot.@@N@@
open Jvm Jvm.ClassFile Sem Op Lib Jvm.Free Jvm.Stand Jvm.Pilot.@@N@@.Jvm.D
/-! MADE BY PROGRAM (witnessworld.py) out of the Statement's table words and the real class files: 11 classes; the members and pool entries that the words name. The judged class is class 1, her method 1. -/
namespace start1
open Jvm.ClassFile
def u (s : String) : CpInfo := .utf8 (stringToUtf16 s)
/-- a pool by its gaps: so many unusable entries, then the entry; so many at the end -/
def gap : Nat → List CpInfo → List CpInfo
  | 0, r => r
  | n + 1, r => .unusable :: gap n r
def poolList (es : List (Nat × CpInfo)) (last : Nat) : List CpInfo := es.foldr (fun e r => gap e.1 (e.2 :: r)) (gap last [])
def pool (es : List (Nat × CpInfo)) (last : Nat) : Array CpInfo := ⟨poolList es last⟩
def fileOf (pool : Array CpInfo) (this : Nat) (attrs : Array Attribute := #[]) (ms : Array MethodInfo := #[]) (fl : Nat := 33) (sup : Nat := 0) (ifs : Array Nat := #[]) (fds : Array FieldInfo := #[]) : ClassFile where
  minorVersion := 0
  majorVersion := 65
  constantPool := pool
  accessFlags := fl
  thisClass := this
  superClass := sup
  interfaces := ifs
  fields := fds
  methods := ms
  attributes := attrs
def plain (name : String) (sup : Option ClassId) : Class where
  name := name
  kind := .ordinary
  loader := none
  accessFlags := 33
  super := sup
  interfaces := #[]
  cf := none
  fields := #[]
  methods := #[]
  instanceTypes := #[]
  staticTypes := #[]
  resolved := #[]
  callSites := []
  init := .initialized
  statics := none
  mirror := none

def pool0 : Array CpInfo := pool [(5, u "<init>"), (0, u "()V"), (1, .class_ 10), (1, u "java/lang/Object")] 113

def k0c0 : Code := { maxStack := 0, maxLocals := 1, code := object_method_1_code, exceptionTable := #[], attributes := #[] }
def k0m0 : Method := { name := "<init>", desc := "()V", sig := { parameters := [], returnType := none }, accessFlags := 1, code := some k0c0 }
/-- java/lang/Object -/
def k0 : Class := { plain "java/lang/Object" none with
  accessFlags := 33
  interfaces := #[]
  cf := some (fileOf pool0 8 #[] #[{ accessFlags := 1, nameIndex := 5, descriptorIndex := 6, attributes := #[] }] 33 0 #[] #[])
  fields := #[]
  methods := #[k0m0]
  instanceTypes := #[]
  staticTypes := #[]
  resolved := Array.replicate 124 none
  statics := none }

def pool1 : Array CpInfo := pool [(2, .class_ 4), (1, u "java/lang/Object"), (0, u "<init>"), (0, u "()V"), (0, .integer 2097151), (0, .integer 65535), (0, .class_ 10), (0, u "com/example/garblescore/garblescore/language/CharacterCounts"), (0, .integer 1114112), (0, .methodref 9 13), (0, .nameAndType 5 14), (0, u "(I[I[J[I)V"), (0, .methodref 9 16), (0, .nameAndType 17 18), (0, u "child"), (0, u "(II)I"), (0, .class_ 20), (0, u "com/example/garblescore/garblescore/language/CharacterCountsChildPinLaw"), (2, u "law"), (0, u "(IIIIII)Z")] 7

def k1m0 : Method := { name := "<init>", desc := "()V", sig := { parameters := [], returnType := none }, accessFlags := 1, code := none }
def k1c1 : Code := { maxStack := 6, maxLocals := 21, code := code, exceptionTable := #[], attributes := #[] }
def k1m1 : Method := { name := "law", desc := "(IIIIII)Z", sig := { parameters := [.int, .int, .int, .int, .int, .int], returnType := some .boolean }, accessFlags := 9, code := some k1c1 }
/-- com/example/garblescore/garblescore/language/CharacterCountsChildPinLaw -/
def k1 : Class := { plain "com/example/garblescore/garblescore/language/CharacterCountsChildPinLaw" (some 0) with
  accessFlags := 49
  interfaces := #[]
  cf := some (fileOf pool1 19 #[] #[{ accessFlags := 1, nameIndex := 5, descriptorIndex := 6, attributes := #[] }, { accessFlags := 9, nameIndex := 23, descriptorIndex := 24, attributes := #[] }] 49 2 #[] #[])
  fields := #[]
  methods := #[k1m0, k1m1]
  instanceTypes := #[]
  staticTypes := #[]
  resolved := Array.replicate 32 none
  statics := none }

def pool2 : Array CpInfo := pool [(3, .methodref 4 5), (0, .class_ 6), (0, .nameAndType 7 8), (0, u "java/lang/Object"), (0, u "<init>"), (0, u "()V"), (0, .fieldref 10 11), (0, .class_ 12), (0, .nameAndType 13 14), (0, u "com/example/garblescore/garblescore/language/CharacterCounts"), (0, u "order"), (0, u "I"), (0, .fieldref 10 16), (0, .nameAndType 17 18), (0, u "codePoints"), (0, u "[I"), (0, .fieldref 10 20), (0, .nameAndType 21 22), (0, u "counts"), (0, u "[J"), (0, .fieldref 10 24), (0, .nameAndType 25 18), (0, u "firstChildren"), (0, .fieldref 10 27), (0, .nameAndType 28 22), (0, u "totals"), (0, .fieldref 10 30), (0, .nameAndType 31 18), (0, u "types"), (2, u "child"), (0, u "(II)I"), (14, .class_ 52), (1, u "com/example/garblescore/garblescore/language/CharacterCounts$RunAction"), (2, u "START"), (1, u "ORDER"), (1, u "ROOT"), (1, u "CODE_POINT_BITS"), (1, u "(I[I[J[I)V"), (21, .class_ 86), (0, u "com/example/garblescore/garblescore/language/CharacterCounts$Builder")] 3

def k2c0 : Code := { maxStack := 6, maxLocals := 8, code := prog_108_method_1_code, exceptionTable := #[], attributes := #[] }
def k2m0 : Method := { name := "<init>", desc := "(I[I[J[I)V", sig := { parameters := [.int, (.array .int), (.array .long), (.array .int)], returnType := none }, accessFlags := 0, code := some k2c0 }
def k2c1 : Code := { maxStack := 3, maxLocals := 7, code := prog_108_method_4_code, exceptionTable := #[], attributes := #[] }
def k2m1 : Method := { name := "child", desc := "(II)I", sig := { parameters := [.int, .int], returnType := some .int }, accessFlags := 0, code := some k2c1 }
/-- com/example/garblescore/garblescore/language/CharacterCounts -/
def k2 : Class := { plain "com/example/garblescore/garblescore/language/CharacterCounts" (some 0) with
  accessFlags := 48
  interfaces := #[]
  cf := some (fileOf pool2 10 #[.nestMembers #[85, 50]] #[{ accessFlags := 0, nameIndex := 7, descriptorIndex := 63, attributes := #[] }, { accessFlags := 0, nameIndex := 34, descriptorIndex := 35, attributes := #[] }] 48 4 #[] #[{ accessFlags := 24, nameIndex := 55, descriptorIndex := 14, attributes := #[] }, { accessFlags := 24, nameIndex := 57, descriptorIndex := 14, attributes := #[] }, { accessFlags := 24, nameIndex := 59, descriptorIndex := 14, attributes := #[] }, { accessFlags := 26, nameIndex := 61, descriptorIndex := 14, attributes := #[] }, { accessFlags := 18, nameIndex := 13, descriptorIndex := 14, attributes := #[] }, { accessFlags := 18, nameIndex := 17, descriptorIndex := 18, attributes := #[] }, { accessFlags := 18, nameIndex := 21, descriptorIndex := 22, attributes := #[] }, { accessFlags := 18, nameIndex := 25, descriptorIndex := 18, attributes := #[] }, { accessFlags := 18, nameIndex := 28, descriptorIndex := 22, attributes := #[] }, { accessFlags := 18, nameIndex := 31, descriptorIndex := 18, attributes := #[] }])
  fields := #[{ name := "START", type := .int, accessFlags := 24, slot := 0, constantValue := 0 }, { name := "ORDER", type := .int, accessFlags := 24, slot := 1, constantValue := 0 }, { name := "ROOT", type := .int, accessFlags := 24, slot := 2, constantValue := 0 }, { name := "CODE_POINT_BITS", type := .int, accessFlags := 26, slot := 3, constantValue := 0 }, { name := "order", type := .int, accessFlags := 18, slot := 0, constantValue := 0 }, { name := "codePoints", type := (.array .int), accessFlags := 18, slot := 1, constantValue := 0 }, { name := "counts", type := (.array .long), accessFlags := 18, slot := 2, constantValue := 0 }, { name := "firstChildren", type := (.array .int), accessFlags := 18, slot := 3, constantValue := 0 }, { name := "totals", type := (.array .long), accessFlags := 18, slot := 4, constantValue := 0 }, { name := "types", type := (.array .int), accessFlags := 18, slot := 5, constantValue := 0 }]
  methods := #[k2m0, k2m1]
  instanceTypes := #[.int, (.array .int), (.array .long), (.array .int), (.array .long), (.array .int)]
  staticTypes := #[.int, .int, .int, .int]
  resolved := Array.replicate 90 none
  statics := none }

def pool3 : Array CpInfo := pool [(1, u "java/lang/Cloneable"), (0, .class_ 1), (0, u "java/lang/Object"), (0, .class_ 3)] 3

/-- java/lang/Cloneable -/
def k3 : Class := { plain "java/lang/Cloneable" (some 0) with
  accessFlags := 1537
  interfaces := #[]
  cf := some (fileOf pool3 2 #[] #[] 1537 4 #[] #[])
  fields := #[]
  methods := #[]
  instanceTypes := #[]
  staticTypes := #[]
  resolved := Array.replicate 8 none
  statics := none }

def pool4 : Array CpInfo := pool [(1, u "java/io/Serializable"), (0, .class_ 1), (0, u "java/lang/Object"), (0, .class_ 3)] 3

/-- java/io/Serializable -/
def k4 : Class := { plain "java/io/Serializable" (some 0) with
  accessFlags := 1537
  interfaces := #[]
  cf := some (fileOf pool4 2 #[] #[] 1537 4 #[] #[])
  fields := #[]
  methods := #[]
  instanceTypes := #[]
  staticTypes := #[]
  resolved := Array.replicate 8 none
  statics := none }

/-- the primitive byte -/
def k5 : Class := { plain "byte" none with kind := .primitive 'B', accessFlags := 0x411 }
/-- [B -/
def k6 : Class := { plain "[B" (some 0) with kind := .array 5 .byte, interfaces := #[3, 4], accessFlags := 1041 }

/-- the primitive int -/
def k7 : Class := { plain "int" none with kind := .primitive 'I', accessFlags := 0x411 }
/-- [I -/
def k8 : Class := { plain "[I" (some 0) with kind := .array 7 .int, interfaces := #[3, 4], accessFlags := 1041 }

/-- the primitive long -/
def k9 : Class := { plain "long" none with kind := .primitive 'J', accessFlags := 0x411 }
/-- [J -/
def k10 : Class := { plain "[J" (some 0) with kind := .array 9 .long, interfaces := #[3, 4], accessFlags := 1041 }

def heap : Heap := #[]
def classes : Array Class := #[k0, k1, k2, k3, k4, k5, k6, k7, k8, k9, k10]
def interned : List (Array UInt16 × Addr) := []
def slotsUsed : Nat := 0
def theMethod : MethodId := ⟨1, 1⟩
def args0 : Array Value := #[.int 5, .int 3, .int 9, .int 3, .int 118, .int 1]
def aboutOver (below : List Frame) : State where
  vm := { classes := classes, interned := interned.toArray }
  heap := heap
  slotsUsed := slotsUsed
  threads := #[{ frames := .invoking theMethod args0 :: below }]
def below0 : List Frame := [.native { method := ⟨0, 0⟩, args := #[] }]
def about1 : State := aboutOver below0
def p0 : Program := .bare "" "" ""
def e0 : Env := launch0.env 0 0 0
theorem w_frames : about1.frames = Frame.invoking theMethod args0 :: below0 := rfl
set_option maxRecDepth 65536 in
theorem w_args : argsFit about1.vm theMethod args0 = true := by decide +kernel
set_option maxRecDepth 65536 in
theorem w_heap : heapFits about1 = true := by decide +kernel
set_option maxRecDepth 65536 in
theorem w_runnable : about1.curStatus? = some .runnable := by decide +kernel
set_option maxRecDepth 65536 in
theorem w_alone : about1.alone = true := by decide +kernel
set_option maxRecDepth 65536 in
theorem w_named : about1.methodNamed? x = some theMethod := by decide +kernel
set_option maxRecDepth 65536 in
theorem w_hears : about1.hears theMethod below0 = true := by decide +kernel
set_option maxRecDepth 65536 in
theorem w_ripe : about1.ripe theMethod args0 below0 = true := by decide +kernel
theorem w_running : about1.status = .running := rfl
set_option maxRecDepth 65536 in
theorem w_room : about1.hasRoom e0.platform room_1 = true :=
  launch0.hasRoom_least _ room_1 (by decide +kernel) (by decide +kernel) (by decide +kernel) (by decide +kernel) (by decide +kernel) (by decide +kernel)
theorem allAtoms_all (ts : List Jvm.Cond) (a : Array Jvm.Value) (st : Jvm.State) : (allAtoms ts).before a st = ts.all (fun c => c.before a st) := by
  induction ts with
  | nil => rfl
  | cons c t ih =>
    show (Jvm.Cond.and c (allAtoms t)).before a st = _
    rw [Jvm.Cond.before_and, ih, List.all_cons]
def words1 : List Jvm.Cond := Jvm.Cond.code x code maxLocals ret :: tables_1
/-- a 'code' word, met by the world's own term for the bytes: nothing is compared byte by byte -/
theorem code_word {y : MethodName} {bytes : ByteArray} {mx : Nat} {rt : Option FieldType} {a : Array Value} {s : State} {m : MethodId} {meth : Method} {c : Code} (h1 : s.methodNamed? y = some m) (h2 : s.vm.method? m = some meth) (h3 : meth.code = some c) (h4 : c.code = bytes)
    (h5 : (c.maxLocals == mx && c.exceptionTable.isEmpty && decide (c.maxStack ≤ mostOperands) && decide (meth.sig.returnType = rt) && !meth.locks && decide (parseMethodDescriptor y.desc = some meth.sig)) = true) : (Jvm.Cond.code y bytes mx rt).before a s = true := by
  simp only [Bool.and_eq_true, beq_iff_eq, Bool.not_eq_true', decide_eq_true_eq] at h5
  obtain ⟨⟨⟨⟨⟨g1, g2⟩, g3⟩, g4⟩, g5⟩, g6⟩ := h5
  simp [Cond.before, Cond.holds, Cond.value, h1, h2, h3, h4, g1, g2, g3, g4, g5, g6]
def isCode : Jvm.Cond → Bool
  | .code _ _ _ _ => true
  | _ => false
theorem all_split {L : List Jvm.Cond} {P : Jvm.Cond → Bool} (h1 : L.all (fun c => isCode c || P c) = true) (h2 : ∀ c ∈ L.filter isCode, P c = true) : L.all P = true := by
  refine List.all_eq_true.mpr fun c hc => ?_
  have h := List.all_eq_true.mp h1 c hc
  rcases Bool.eq_false_or_eq_true (isCode c) with hi | hi
  · exact h2 c (List.mem_filter.mpr ⟨hc, hi⟩)
  · simpa [hi] using h
set_option maxRecDepth 65536 in
theorem w_c0 : (Jvm.Cond.code x code maxLocals ret).before args0 about1 = true := code_word (m := ⟨1, 1⟩) (meth := k1m1) (c := k1c1) (by decide +kernel) rfl rfl rfl (by decide +kernel)
set_option maxRecDepth 65536 in
theorem w_c1 : (Jvm.Cond.code ({ cls := "com/example/garblescore/garblescore/language/CharacterCounts", name := "<init>", desc := "(I[I[J[I)V" } : Jvm.MethodName) prog_108_method_1_code (8 : Nat) (Option.none : Option Jvm.ClassFile.FieldType)).before args0 about1 = true := code_word (m := ⟨2, 0⟩) (meth := k2m0) (c := k2c0) (by decide +kernel) rfl rfl rfl (by decide +kernel)
set_option maxRecDepth 65536 in
theorem w_c2 : (Jvm.Cond.code ({ cls := "java/lang/Object", name := "<init>", desc := "()V" } : Jvm.MethodName) object_method_1_code (1 : Nat) (Option.none : Option Jvm.ClassFile.FieldType)).before args0 about1 = true := code_word (m := ⟨0, 0⟩) (meth := k0m0) (c := k0c0) (by decide +kernel) rfl rfl rfl (by decide +kernel)
set_option maxRecDepth 65536 in
theorem w_c3 : (Jvm.Cond.code ({ cls := "com/example/garblescore/garblescore/language/CharacterCounts", name := "child", desc := "(II)I" } : Jvm.MethodName) prog_108_method_4_code (7 : Nat) (Option.some Jvm.ClassFile.FieldType.int)).before args0 about1 = true := code_word (m := ⟨2, 1⟩) (meth := k2m1) (c := k2c1) (by decide +kernel) rfl rfl rfl (by decide +kernel)
def codes1 : List Jvm.Cond := [Jvm.Cond.code x code maxLocals ret, Jvm.Cond.code ({ cls := "com/example/garblescore/garblescore/language/CharacterCounts", name := "<init>", desc := "(I[I[J[I)V" } : Jvm.MethodName) prog_108_method_1_code (8 : Nat) (Option.none : Option Jvm.ClassFile.FieldType), Jvm.Cond.code ({ cls := "java/lang/Object", name := "<init>", desc := "()V" } : Jvm.MethodName) object_method_1_code (1 : Nat) (Option.none : Option Jvm.ClassFile.FieldType), Jvm.Cond.code ({ cls := "com/example/garblescore/garblescore/language/CharacterCounts", name := "child", desc := "(II)I" } : Jvm.MethodName) prog_108_method_4_code (7 : Nat) (Option.some Jvm.ClassFile.FieldType.int)]
set_option maxRecDepth 65536 in
theorem codes_eq : words1.filter isCode = codes1 := rfl
theorem w_codes : ∀ c ∈ words1.filter isCode, c.before args0 about1 = true := by
  rw [codes_eq]
  intro c hc
  simp only [codes1, List.mem_cons, List.not_mem_nil, or_false] at hc
  rcases hc with rfl | rfl | rfl | rfl
  · exact w_c0
  · exact w_c1
  · exact w_c2
  · exact w_c3
set_option maxRecDepth 65536 in
theorem w_t1 : (words1.take 24).all (fun c => isCode c || c.before args0 about1) = true := by decide +kernel
set_option maxRecDepth 65536 in
theorem w_t2 : (words1.drop 24).all (fun c => isCode c || c.before args0 about1) = true := by decide +kernel
theorem w_tables : (allAtoms (Jvm.Cond.code x code maxLocals ret :: tables_1)).before args0 about1 = true := by
  rw [allAtoms_all]
  show words1.all (fun c => c.before args0 about1) = true
  refine all_split ?_ w_codes
  rw [← List.take_append_drop 24 words1, List.all_append, w_t1, w_t2]
  rfl
set_option maxRecDepth 65536 in
theorem w_case : (Jvm.Cond.and given_1 narrow_1).before args0 about1 = true := by decide +kernel
theorem w_applies : (headSpec (Jvm.Cond.code x code maxLocals ret :: tables_1) room_1).applies x e0.platform about1 = true :=
  (Spec.applies_iff w_frames).mpr ⟨w_running, w_runnable, w_alone, w_named, w_hears, w_ripe, w_room, w_tables⟩
theorem atStart : AtStart classFile x code maxLocals ret World_1 tables_1 room_1 Calls_1 rest_1 Pre_1 launch0 p0 e0 about1 theMethod args0 below0 :=
  ⟨lists_1, trivial, launch0.admits_env _ _ _, launch0.least_env, fairChoices_fair.cas, fairChoices_fair.clock, w_frames, w_args, w_heap, w_applies, trivial, trivial, w_case⟩
end start1
theorem witness_1 : WitnessClaimed_1 := ⟨start1.p0, start1.e0, start1.about1, start1.theMethod, start1.args0, start1.below0, start1.atStart⟩
end Jvm.Pilot.@@N@@
