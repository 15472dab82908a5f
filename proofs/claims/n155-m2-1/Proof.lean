import JvmDerived
import JvmDerived.Pilot.@@N@@Statement
import JvmDerived.Pilot.@@N@@Code
set_option linter.unusedVariables false
set_option linter.unusedSimpArgs false
namespace Jvm.Pilot.@@N@@
open Jvm Jvm.ClassFile Sem Op Lib Jvm.Free Jvm.Stand Jvm.LawKit Jvm.RoadKit Bundle Jvm.Pilot.@@N@@.Jvm.D
/-! ## my own layer: a walk read forward (Wk), where it stands (Hr), what a body promises (Con) -/
/-- from the state a the walk ends, and G holds of its end -/
def Wk (tb : Tables) (e : Env) (below : List Frame) (G : State → Outcome → Prop) (a : State) : Prop := ∃ t o, Steps tb e below a t ∧ t.status = .running ∧ Ended t below o ∧ G t o
theorem Wk.go {tb : Tables} {e : Env} {below : List Frame} {G : State → Outcome → Prop} {a b : State} (f : ∀ t, Steps tb e below b t → Steps tb e below a t) (k : Wk tb e below G b) : Wk tb e below G a := by
  obtain ⟨t, o, q, r⟩ := k
  exact ⟨t, o, f t q, r⟩
/-- where a walk stands: the library's Stand, with all that a step asks; nothing below n0 was written -/
def Hr (p : Program) (l : Launch) (e : Env) (R : Room) (s : State) (m : MethodId) (args : Array Value) (below : List Frame) (meth : Method) (c : Code) (Z : State) (own : String) (bs : ByteArray) (ml n0 : Nat) (rt : Option FieldType) (T : State) (h : Heap) (cells slots : Nat) : Prop :=
  (∃ locs, Stand p l e R s m args below meth c T locs cells slots ∧ Fr n0 locs) ∧ p.tables.exec = Jvm.exec ∧ c.code = bs ∧ c.maxLocals = ml ∧ Z.Warmed39 s.vm ∧ s.vm.findClass own = some m.cls ∧ meth.sig.returnType = rt ∧ meth.locks = false ∧ T.heap = h
/-- the end that a contract speaks of -/
def Gl (s : State) (n0 : Nat) (Q : Option Value → Heap → Prop) (C N : Nat) (t : State) (o : Outcome) : Prop := ∃ v L, o = .returned v ∧ (Q v t.heap ∧ Fr n0 L) ∧ FrameEnd s o t L C N
/-- what a body promises: started with these arguments at this heap it returns, and Q holds of the value and the heap -/
abbrev Con (l : Launch) (y : MethodName) (bytes : ByteArray) (maxL : Nat) (rt : Option FieldType) (rm : Room) (ws : List Jvm.Cond) (Z : State) (as' : Array Value) (h0 : Heap) (n0 : Nat) (Q : Option Value → Heap → Prop) : Prop :=
  MetFree l y (head1 (Jvm.Cond.code y bytes maxL rt :: ws) rm) (fun a U => a = as' ∧ Z.Warmed39 U.vm ∧ U.heap = h0) (fun _ _ _ _ _ => True) (fun _ U o U' => ∃ v L, o = .returned v ∧ (Q v U'.heap ∧ Fr n0 L) ∧ FrameEnd U o U' L rm.cells rm.slots)
theorem Con.of {l : Launch} {y : MethodName} {bytes : ByteArray} {maxL : Nat} {rt : Option FieldType} {rm : Room} {ws : List Jvm.Cond} {Z : State} {as' : Array Value} {h0 : Heap} {n0 : Nat} {Q : Option Value → Heap → Prop} (hp : plainFor y = true)
    (body : ∀ p e s m below meth c T, Hr p l e rm s m as' below meth c Z y.cls bytes maxL n0 rt T h0 0 0 → meth.name = y.name → Wk p.tables e below (Gl s n0 Q rm.cells rm.slots) (T.setTop (entryFrame m as' maxL))) : Con l y bytes maxL rt rm ws Z as' h0 n0 Q := by
  refine MetFree.of_bodySF hp hisR ?_
  intro p e s m args below meth c s₁ Bd hml0 hP hK
  obtain ⟨rfl, hZ, hh⟩ := hP
  have e0 : s₁.heap = h0 := by rw [← hh, Bd.state]; rfl
  exact body p e s m below meth c s₁ ⟨⟨[], Stand.of_body Bd, Fr.nil n0⟩, Bd.exec, Bd.bytes, hml0, hZ, findClass_of_methodNamed Bd.named, Bd.returns, Bd.notSynchronized, e0⟩ (name_of_methodNamed Bd.named Bd.method).1
/-- an array and all that it holds -/
def Arl (Z : State) (h : Heap) (a : Addr) (ty : FieldType) (us : List Value) : Prop := ∃ cl : Cell, Arr Z h a cl ty ∧ cl.slots = us.toArray ∧ us.length < 2 ^ 31
section Layer
variable {p : Program} {l : Launch} {e : Env} {R : Room} {s : State} {m : MethodId} {args : Array Value} {below : List Frame} {meth : Method} {c : Code} {Z : State} {own : String} {bs : ByteArray} {ml n0 : Nat} {rt : Option FieldType} {T : State} {h h' : Heap} {cells slots : Nat} {G : State → Outcome → Prop} {pc : Nat} {Ls : Array Slot} {st : List Value} {a0 : Array Value}
theorem Arl.ext {a : Addr} {ty : FieldType} {us : List Value} (A : Arl Z h a ty us) (E : Ext h h') : Arl Z h' a ty us := by
  obtain ⟨cl, A, r⟩ := A; exact ⟨cl, A.ext E, r⟩
theorem Arl.lt {a : Addr} {ty : FieldType} {us : List Value} (A : Arl Z h a ty us) : a < h.size := by
  obtain ⟨cl, A, r⟩ := A; exact A.lt
theorem Arl.other {a b : Addr} {ty : FieldType} {us : List Value} {sl : Nat} {v : Value} (A : Arl Z h b ty us) (W : Wr h h' a sl v) (q : b ≠ a) : Arl Z h' b ty us := by
  obtain ⟨cl, A, r⟩ := A; exact ⟨cl, A.other W q, r⟩
theorem Arl.keep {a : Addr} {ty : FieldType} {us : List Value} {ws : List Addr} (A : Arl Z h a ty us) (K : Keep h h' ws) (q : a ∉ ws) : Arl Z h' a ty us := by
  obtain ⟨cl, A, r⟩ := A; exact ⟨cl, ⟨K.2.1 a cl A.1 q, A.2⟩, r⟩
theorem Arl.set {a : Addr} {ty : FieldType} {us : List Value} {i : Nat} {v : Value} (A : Arl Z h a ty us) (W : Wr h h' a i v) : Arl Z h' a ty (us.set i v) := by
  obtain ⟨cl, A, r1, r2⟩ := A
  refine ⟨cl.setSlot i v, A.same W, ?_, by simpa using r2⟩
  simp [Cell.setSlot, r1]
theorem Arl.len {a : Addr} {ty : FieldType} {us : List Value} (A : Arl Z h a ty us) : us.length < 2 ^ 31 := by
  obtain ⟨cl, A, r1, r2⟩ := A; exact r2
theorem Arl.ne {a b : Addr} {ty : FieldType} {us : List Value} {C : String} {k : Nat} (A : Arl Z h a ty us) (E : Exa Z h b C) (wi : (Cond.instantiable C k).before a0 Z = true) : a ≠ b := by
  obtain ⟨cl, A, r⟩ := A; exact (ne_arr E wi A).symm
theorem ix_in {j : Int32} {i n : Nat} (hj : j.toInt = i) (hi : i < n) : ¬ (j < 0 ∨ n ≤ j.toNatClampNeg) ∧ j.toNatClampNeg = i := by
  have q : j.toNatClampNeg = i := by simp [Int32.toNatClampNeg, hj]
  refine ⟨?_, q⟩
  rw [q, Int32.lt_iff_toInt_lt, hj]
  simp only [Int32.reduceToInt]
  omega
theorem len32 {n : Nat} (h : n < 2 ^ 31) : n.toInt32.toInt = n := len_toInt h
/-- the branch is taken -/
def cmpT : ClassFile.Cond → Int32 → Int32 → Prop
  | .eq, x, y => x = y
  | .ne, x, y => ¬ x = y
  | .lt, x, y => x < y
  | .ge, x, y => ¬ x < y
  | .gt, x, y => y < x
  | .le, x, y => ¬ y < x
/-- the branch is not taken -/
def cmpF : ClassFile.Cond → Int32 → Int32 → Prop
  | .eq, x, y => ¬ x = y
  | .ne, x, y => x = y
  | .lt, x, y => ¬ x < y
  | .ge, x, y => x < y
  | .gt, x, y => ¬ y < x
  | .le, x, y => y < x
theorem cmp_t {cd : ClassFile.Cond} {x y : Int32} (q : cmpT cd x y) : if_icmp.holds cd x y = true := by
  cases cd
  · exact (teq q).1
  · exact (feq q).2
  · exact (tlt q).1
  · exact (flt q).2.1
  · exact (tlt q).2.2.1
  · exact (flt q).2.2.2
theorem cmp_f {cd : ClassFile.Cond} {x y : Int32} (q : cmpF cd x y) : if_icmp.holds cd x y = false := by
  cases cd
  · exact (feq q).1
  · exact (teq q).2
  · exact (flt q).1
  · exact (tlt q).2.1
  · exact (flt q).2.2.1
  · exact (tlt q).2.2.2
theorem cmp_or (cd : ClassFile.Cond) (x y : Int32) : cmpT cd x y ∨ cmpF cd x y := by
  cases cd
  · exact Classical.em _
  · exact (Classical.em _).symm
  · exact Classical.em _
  · exact (Classical.em _).symm
  · exact Classical.em _
  · exact (Classical.em _).symm
/-- a step that only moves the frame -/
theorem Wk.pu (X : Hr p l e R s m args below meth c Z own bs ml n0 rt T h cells slots) {a b : State} (f : At T m c below → p.tables.exec = Jvm.exec → c.code = bs → ∀ t, Steps p.tables e below b t → Steps p.tables e below a t) (k : Wk p.tables e below G b) : Wk p.tables e below G a := by
  obtain ⟨⟨locs, Y, N⟩, hx, hc, -⟩ := X
  exact Wk.go (f Y.here hx hc) k
/-- two roads that meet at b: it is walked once -/
theorem Wk.join {a : State} (b : State) (P : Prop) (k2 : P → Wk p.tables e below G b) (k1 : (P → Wk p.tables e below G b) → Wk p.tables e below G a) : Wk p.tables e below G a := k1 k2
theorem Wk.iload (X : Hr p l e R s m args below meth c Z own bs ml n0 rt T h cells slots) {i : Nat} {v : Int32} (hd : decode bs pc = .ok (.iload i, 2)) (pc' : Nat) (hp : pc + 2 = pc') (hl : Ls[i]? = some (.val (.int v))) (k : Wk p.tables e below G (T.setTop (mkF m pc' Ls (.int v :: st)))) : Wk p.tables e below G (T.setTop (mkF m pc Ls st)) := by
  subst hp
  exact Wk.pu X (fun hA hx hc t q => XS.iload hA hx rfl (hb hc hd) hl q) k
theorem Wk.iloadN (X : Hr p l e R s m args below meth c Z own bs ml n0 rt T h cells slots) {i : Fin 4} {v : Int32} (hd : decode bs pc = .ok (.iload_n i, 1)) (pc' : Nat) (hp : pc + 1 = pc') (hl : Ls[i.val]? = some (.val (.int v))) (k : Wk p.tables e below G (T.setTop (mkF m pc' Ls (.int v :: st)))) : Wk p.tables e below G (T.setTop (mkF m pc Ls st)) := by
  subst hp
  exact Wk.pu X (fun hA hx hc t q => XS.iloadN hA hx rfl (hb hc hd) hl q) k
theorem Wk.lload (X : Hr p l e R s m args below meth c Z own bs ml n0 rt T h cells slots) {i : Nat} {v : Int64} (hd : decode bs pc = .ok (.lload i, 2)) (pc' : Nat) (hp : pc + 2 = pc') (hl : Ls[i]? = some (.val (.long v))) (k : Wk p.tables e below G (T.setTop (mkF m pc' Ls (.long v :: st)))) : Wk p.tables e below G (T.setTop (mkF m pc Ls st)) := by
  subst hp
  exact Wk.pu X (fun hA hx hc t q => XS.lload hA hx rfl (hb hc hd) hl q) k
theorem Wk.lloadN (X : Hr p l e R s m args below meth c Z own bs ml n0 rt T h cells slots) {i : Fin 4} {v : Int64} (hd : decode bs pc = .ok (.lload_n i, 1)) (pc' : Nat) (hp : pc + 1 = pc') (hl : Ls[i.val]? = some (.val (.long v))) (k : Wk p.tables e below G (T.setTop (mkF m pc' Ls (.long v :: st)))) : Wk p.tables e below G (T.setTop (mkF m pc Ls st)) := by
  subst hp
  exact Wk.pu X (fun hA hx hc t q => XS.lloadN hA hx rfl (hb hc hd) hl q) k
theorem Wk.aload (X : Hr p l e R s m args below meth c Z own bs ml n0 rt T h cells slots) {i : Nat} {v : Value} (hd : decode bs pc = .ok (.aload i, 2)) (pc' : Nat) (hp : pc + 2 = pc') (hl : Ls[i]? = some (.val v)) (hv : v.isRef = true) (k : Wk p.tables e below G (T.setTop (mkF m pc' Ls (v :: st)))) : Wk p.tables e below G (T.setTop (mkF m pc Ls st)) := by
  subst hp
  exact Wk.pu X (fun hA hx hc t q => XS.aload hA hx rfl (hb hc hd) hl hv q) k
theorem Wk.aloadN (X : Hr p l e R s m args below meth c Z own bs ml n0 rt T h cells slots) {i : Fin 4} {v : Value} (hd : decode bs pc = .ok (.aload_n i, 1)) (pc' : Nat) (hp : pc + 1 = pc') (hl : Ls[i.val]? = some (.val v)) (hv : v.isRef = true) (k : Wk p.tables e below G (T.setTop (mkF m pc' Ls (v :: st)))) : Wk p.tables e below G (T.setTop (mkF m pc Ls st)) := by
  subst hp
  exact Wk.pu X (fun hA hx hc t q => XS.aloadN hA hx rfl (hb hc hd) hl hv q) k
theorem Wk.istore (X : Hr p l e R s m args below meth c Z own bs ml n0 rt T h cells slots) {i : Nat} {v : Int32} (hd : decode bs pc = .ok (.istore i, 2)) (pc' : Nat) (hp : pc + 2 = pc') (Ls' : Array Slot) (hl : storeLocals Ls i (.int v) = some Ls') (k : Wk p.tables e below G (T.setTop (mkF m pc' Ls' st))) : Wk p.tables e below G (T.setTop (mkF m pc Ls (.int v :: st))) := by
  subst hp
  exact Wk.pu X (fun hA hx hc t q => XS.istore hA hx rfl (hb hc hd) rfl hl q) k
theorem Wk.istoreN (X : Hr p l e R s m args below meth c Z own bs ml n0 rt T h cells slots) {i : Fin 4} {v : Int32} (hd : decode bs pc = .ok (.istore_n i, 1)) (pc' : Nat) (hp : pc + 1 = pc') (Ls' : Array Slot) (hl : storeLocals Ls i.val (.int v) = some Ls') (k : Wk p.tables e below G (T.setTop (mkF m pc' Ls' st))) : Wk p.tables e below G (T.setTop (mkF m pc Ls (.int v :: st))) := by
  subst hp
  exact Wk.pu X (fun hA hx hc t q => XS.istoreN hA hx rfl (hb hc hd) rfl hl q) k
theorem Wk.lstore (X : Hr p l e R s m args below meth c Z own bs ml n0 rt T h cells slots) {i : Nat} {v : Int64} (hd : decode bs pc = .ok (.lstore i, 2)) (pc' : Nat) (hp : pc + 2 = pc') (Ls' : Array Slot) (hl : storeLocals Ls i (.long v) = some Ls') (k : Wk p.tables e below G (T.setTop (mkF m pc' Ls' st))) : Wk p.tables e below G (T.setTop (mkF m pc Ls (.long v :: st))) := by
  subst hp
  exact Wk.pu X (fun hA hx hc t q => XS.lstore hA hx rfl (hb hc hd) rfl hl q) k
theorem Wk.lstoreN (X : Hr p l e R s m args below meth c Z own bs ml n0 rt T h cells slots) {i : Fin 4} {v : Int64} (hd : decode bs pc = .ok (.lstore_n i, 1)) (pc' : Nat) (hp : pc + 1 = pc') (Ls' : Array Slot) (hl : storeLocals Ls i.val (.long v) = some Ls') (k : Wk p.tables e below G (T.setTop (mkF m pc' Ls' st))) : Wk p.tables e below G (T.setTop (mkF m pc Ls (.long v :: st))) := by
  subst hp
  exact Wk.pu X (fun hA hx hc t q => XS.lstoreN hA hx rfl (hb hc hd) rfl hl q) k
theorem Wk.astore (X : Hr p l e R s m args below meth c Z own bs ml n0 rt T h cells slots) {i : Nat} {v : Value} (hd : decode bs pc = .ok (.astore i, 2)) (pc' : Nat) (hp : pc + 2 = pc') (Ls' : Array Slot) (hv : v.isRef = true) (hl : storeLocals Ls i v = some Ls') (k : Wk p.tables e below G (T.setTop (mkF m pc' Ls' st))) : Wk p.tables e below G (T.setTop (mkF m pc Ls (v :: st))) := by
  subst hp
  exact Wk.pu X (fun hA hx hc t q => XS.astore hA hx rfl (hb hc hd) rfl hv hl q) k
theorem Wk.astoreN (X : Hr p l e R s m args below meth c Z own bs ml n0 rt T h cells slots) {i : Fin 4} {v : Value} (hd : decode bs pc = .ok (.astore_n i, 1)) (pc' : Nat) (hp : pc + 1 = pc') (Ls' : Array Slot) (hv : v.isRef = true) (hl : storeLocals Ls i.val v = some Ls') (k : Wk p.tables e below G (T.setTop (mkF m pc' Ls' st))) : Wk p.tables e below G (T.setTop (mkF m pc Ls (v :: st))) := by
  subst hp
  exact Wk.pu X (fun hA hx hc t q => XS.astoreN hA hx rfl (hb hc hd) rfl hv hl q) k
theorem Wk.iinc (X : Hr p l e R s m args below meth c Z own bs ml n0 rt T h cells slots) {i : Nat} {cst : Int} {v : Int32} (hd : decode bs pc = .ok (.iinc i cst, 3)) (pc' : Nat) (hp : pc + 3 = pc') (Ls' : Array Slot) (hl : Ls[i]? = some (.val (.int v))) (hl' : storeLocals Ls i (.int (v + Int32.ofInt cst)) = some Ls') (k : Wk p.tables e below G (T.setTop (mkF m pc' Ls' st))) : Wk p.tables e below G (T.setTop (mkF m pc Ls st)) := by
  subst hp
  exact Wk.pu X (fun hA hx hc t q => XS.iinc hA hx rfl (hb hc hd) hl hl' q) k
theorem Wk.iconst (X : Hr p l e R s m args below meth c Z own bs ml n0 rt T h cells slots) {i : Int} (hd : decode bs pc = .ok (.iconst i, 1)) (pc' : Nat) (hp : pc + 1 = pc') (z : Int32) (hz : Int32.ofInt i = z) (k : Wk p.tables e below G (T.setTop (mkF m pc' Ls (.int z :: st)))) : Wk p.tables e below G (T.setTop (mkF m pc Ls st)) := by
  subst hp hz
  exact Wk.pu X (fun hA hx hc t q => XS.iconst hA hx rfl (hb hc hd) q) k
theorem Wk.bipush (X : Hr p l e R s m args below meth c Z own bs ml n0 rt T h cells slots) {i : Int} (hd : decode bs pc = .ok (.bipush i, 2)) (pc' : Nat) (hp : pc + 2 = pc') (z : Int32) (hz : (Int8.ofInt i).toInt32 = z) (k : Wk p.tables e below G (T.setTop (mkF m pc' Ls (.int z :: st)))) : Wk p.tables e below G (T.setTop (mkF m pc Ls st)) := by
  subst hp hz
  exact Wk.pu X (fun hA hx hc t q => XS.bipush hA hx rfl (hb hc hd) q) k
theorem Wk.sipush (X : Hr p l e R s m args below meth c Z own bs ml n0 rt T h cells slots) {i : Int} (hd : decode bs pc = .ok (.sipush i, 3)) (pc' : Nat) (hp : pc + 3 = pc') (z : Int32) (hz : (Int16.ofInt i).toInt32 = z) (k : Wk p.tables e below G (T.setTop (mkF m pc' Ls (.int z :: st)))) : Wk p.tables e below G (T.setTop (mkF m pc Ls st)) := by
  subst hp hz
  exact Wk.pu X (fun hA hx hc t q => XS.sipush hA hx rfl (hb hc hd) q) k
theorem Wk.lconst (X : Hr p l e R s m args below meth c Z own bs ml n0 rt T h cells slots) {i : Fin 2} (hd : decode bs pc = .ok (.lconst i, 1)) (pc' : Nat) (hp : pc + 1 = pc') (z : Int64) (hz : Int64.ofNat i = z) (k : Wk p.tables e below G (T.setTop (mkF m pc' Ls (.long z :: st)))) : Wk p.tables e below G (T.setTop (mkF m pc Ls st)) := by
  subst hp hz
  exact Wk.pu X (fun hA hx hc t q => XS.lconst hA hx rfl (hb hc hd) q) k
theorem Wk.aconstNull (X : Hr p l e R s m args below meth c Z own bs ml n0 rt T h cells slots) (hd : decode bs pc = .ok (.aconst_null, 1)) (pc' : Nat) (hp : pc + 1 = pc') (k : Wk p.tables e below G (T.setTop (mkF m pc' Ls (.null :: st)))) : Wk p.tables e below G (T.setTop (mkF m pc Ls st)) := by
  subst hp
  exact Wk.pu X (fun hA hx hc t q => XS.aconstNull hA hx rfl (hb hc hd) q) k
theorem Wk.iadd (X : Hr p l e R s m args below meth c Z own bs ml n0 rt T h cells slots) {x y : Int32} (hd : decode bs pc = .ok (.iadd, 1)) (pc' : Nat) (hp : pc + 1 = pc') (k : Wk p.tables e below G (T.setTop (mkF m pc' Ls (.int (x + y) :: st)))) : Wk p.tables e below G (T.setTop (mkF m pc Ls (.int y :: .int x :: st))) := by
  subst hp
  exact Wk.pu X (fun hA hx hc t q => XS.iadd hA hx rfl (hb hc hd) rfl q) k
theorem Wk.isub (X : Hr p l e R s m args below meth c Z own bs ml n0 rt T h cells slots) {x y : Int32} (hd : decode bs pc = .ok (.isub, 1)) (pc' : Nat) (hp : pc + 1 = pc') (k : Wk p.tables e below G (T.setTop (mkF m pc' Ls (.int (x - y) :: st)))) : Wk p.tables e below G (T.setTop (mkF m pc Ls (.int y :: .int x :: st))) := by
  subst hp
  exact Wk.pu X (fun hA hx hc t q => XS.isub hA hx rfl (hb hc hd) rfl q) k
theorem Wk.imul (X : Hr p l e R s m args below meth c Z own bs ml n0 rt T h cells slots) {x y : Int32} (hd : decode bs pc = .ok (.imul, 1)) (pc' : Nat) (hp : pc + 1 = pc') (k : Wk p.tables e below G (T.setTop (mkF m pc' Ls (.int (x * y) :: st)))) : Wk p.tables e below G (T.setTop (mkF m pc Ls (.int y :: .int x :: st))) := by
  subst hp
  exact Wk.pu X (fun hA hx hc t q => XS.imul hA hx rfl (hb hc hd) rfl q) k
theorem Wk.iand (X : Hr p l e R s m args below meth c Z own bs ml n0 rt T h cells slots) {x y : Int32} (hd : decode bs pc = .ok (.iand, 1)) (pc' : Nat) (hp : pc + 1 = pc') (k : Wk p.tables e below G (T.setTop (mkF m pc' Ls (.int (x &&& y) :: st)))) : Wk p.tables e below G (T.setTop (mkF m pc Ls (.int y :: .int x :: st))) := by
  subst hp
  exact Wk.pu X (fun hA hx hc t q => XS.iand hA hx rfl (hb hc hd) rfl q) k
theorem Wk.ior (X : Hr p l e R s m args below meth c Z own bs ml n0 rt T h cells slots) {x y : Int32} (hd : decode bs pc = .ok (.ior, 1)) (pc' : Nat) (hp : pc + 1 = pc') (k : Wk p.tables e below G (T.setTop (mkF m pc' Ls (.int (x ||| y) :: st)))) : Wk p.tables e below G (T.setTop (mkF m pc Ls (.int y :: .int x :: st))) := by
  subst hp
  exact Wk.pu X (fun hA hx hc t q => XS.ior hA hx rfl (hb hc hd) rfl q) k
theorem Wk.ixor (X : Hr p l e R s m args below meth c Z own bs ml n0 rt T h cells slots) {x y : Int32} (hd : decode bs pc = .ok (.ixor, 1)) (pc' : Nat) (hp : pc + 1 = pc') (k : Wk p.tables e below G (T.setTop (mkF m pc' Ls (.int (x ^^^ y) :: st)))) : Wk p.tables e below G (T.setTop (mkF m pc Ls (.int y :: .int x :: st))) := by
  subst hp
  exact Wk.pu X (fun hA hx hc t q => XS.ixor hA hx rfl (hb hc hd) rfl q) k
theorem Wk.ishl (X : Hr p l e R s m args below meth c Z own bs ml n0 rt T h cells slots) {x y : Int32} (hd : decode bs pc = .ok (.ishl, 1)) (pc' : Nat) (hp : pc + 1 = pc') (k : Wk p.tables e below G (T.setTop (mkF m pc' Ls (.int (x <<< (y &&& 31)) :: st)))) : Wk p.tables e below G (T.setTop (mkF m pc Ls (.int y :: .int x :: st))) := by
  subst hp
  exact Wk.pu X (fun hA hx hc t q => XS.ishl hA hx rfl (hb hc hd) rfl q) k
theorem Wk.ishr (X : Hr p l e R s m args below meth c Z own bs ml n0 rt T h cells slots) {x y : Int32} (hd : decode bs pc = .ok (.ishr, 1)) (pc' : Nat) (hp : pc + 1 = pc') (k : Wk p.tables e below G (T.setTop (mkF m pc' Ls (.int (x >>> (y &&& 31)) :: st)))) : Wk p.tables e below G (T.setTop (mkF m pc Ls (.int y :: .int x :: st))) := by
  subst hp
  exact Wk.pu X (fun hA hx hc t q => XS.ishr hA hx rfl (hb hc hd) rfl q) k
theorem Wk.iushr (X : Hr p l e R s m args below meth c Z own bs ml n0 rt T h cells slots) {x y : Int32} (hd : decode bs pc = .ok (.iushr, 1)) (pc' : Nat) (hp : pc + 1 = pc') (k : Wk p.tables e below G (T.setTop (mkF m pc' Ls (.int ((x.toUInt32 >>> (y &&& 31).toUInt32).toInt32) :: st)))) : Wk p.tables e below G (T.setTop (mkF m pc Ls (.int y :: .int x :: st))) := by
  subst hp
  exact Wk.pu X (fun hA hx hc t q => XS.iushr hA hx rfl (hb hc hd) rfl q) k
theorem Wk.ladd (X : Hr p l e R s m args below meth c Z own bs ml n0 rt T h cells slots) {x y : Int64} (hd : decode bs pc = .ok (.ladd, 1)) (pc' : Nat) (hp : pc + 1 = pc') (k : Wk p.tables e below G (T.setTop (mkF m pc' Ls (.long (x + y) :: st)))) : Wk p.tables e below G (T.setTop (mkF m pc Ls (.long y :: .long x :: st))) := by
  subst hp
  exact Wk.pu X (fun hA hx hc t q => XS.ladd hA hx rfl (hb hc hd) rfl q) k
theorem Wk.lsub (X : Hr p l e R s m args below meth c Z own bs ml n0 rt T h cells slots) {x y : Int64} (hd : decode bs pc = .ok (.lsub, 1)) (pc' : Nat) (hp : pc + 1 = pc') (k : Wk p.tables e below G (T.setTop (mkF m pc' Ls (.long (x - y) :: st)))) : Wk p.tables e below G (T.setTop (mkF m pc Ls (.long y :: .long x :: st))) := by
  subst hp
  exact Wk.pu X (fun hA hx hc t q => XS.lsub hA hx rfl (hb hc hd) rfl q) k
theorem Wk.lmul (X : Hr p l e R s m args below meth c Z own bs ml n0 rt T h cells slots) {x y : Int64} (hd : decode bs pc = .ok (.lmul, 1)) (pc' : Nat) (hp : pc + 1 = pc') (k : Wk p.tables e below G (T.setTop (mkF m pc' Ls (.long (x * y) :: st)))) : Wk p.tables e below G (T.setTop (mkF m pc Ls (.long y :: .long x :: st))) := by
  subst hp
  exact Wk.pu X (fun hA hx hc t q => XS.lmul hA hx rfl (hb hc hd) rfl q) k
theorem Wk.land (X : Hr p l e R s m args below meth c Z own bs ml n0 rt T h cells slots) {x y : Int64} (hd : decode bs pc = .ok (.land, 1)) (pc' : Nat) (hp : pc + 1 = pc') (k : Wk p.tables e below G (T.setTop (mkF m pc' Ls (.long (x &&& y) :: st)))) : Wk p.tables e below G (T.setTop (mkF m pc Ls (.long y :: .long x :: st))) := by
  subst hp
  exact Wk.pu X (fun hA hx hc t q => XS.land hA hx rfl (hb hc hd) rfl q) k
theorem Wk.lor (X : Hr p l e R s m args below meth c Z own bs ml n0 rt T h cells slots) {x y : Int64} (hd : decode bs pc = .ok (.lor, 1)) (pc' : Nat) (hp : pc + 1 = pc') (k : Wk p.tables e below G (T.setTop (mkF m pc' Ls (.long (x ||| y) :: st)))) : Wk p.tables e below G (T.setTop (mkF m pc Ls (.long y :: .long x :: st))) := by
  subst hp
  exact Wk.pu X (fun hA hx hc t q => XS.lor hA hx rfl (hb hc hd) rfl q) k
theorem Wk.lxor (X : Hr p l e R s m args below meth c Z own bs ml n0 rt T h cells slots) {x y : Int64} (hd : decode bs pc = .ok (.lxor, 1)) (pc' : Nat) (hp : pc + 1 = pc') (k : Wk p.tables e below G (T.setTop (mkF m pc' Ls (.long (x ^^^ y) :: st)))) : Wk p.tables e below G (T.setTop (mkF m pc Ls (.long y :: .long x :: st))) := by
  subst hp
  exact Wk.pu X (fun hA hx hc t q => XS.lxor hA hx rfl (hb hc hd) rfl q) k
theorem Wk.lshl (X : Hr p l e R s m args below meth c Z own bs ml n0 rt T h cells slots) {x : Int64} {y : Int32} (hd : decode bs pc = .ok (.lshl, 1)) (pc' : Nat) (hp : pc + 1 = pc') (k : Wk p.tables e below G (T.setTop (mkF m pc' Ls (.long (x <<< (y &&& 0x3f).toInt64) :: st)))) : Wk p.tables e below G (T.setTop (mkF m pc Ls (.int y :: .long x :: st))) := by
  subst hp
  exact Wk.pu X (fun hA hx hc t q => XS.lshl hA hx rfl (hb hc hd) rfl q) k
theorem Wk.lshr (X : Hr p l e R s m args below meth c Z own bs ml n0 rt T h cells slots) {x : Int64} {y : Int32} (hd : decode bs pc = .ok (.lshr, 1)) (pc' : Nat) (hp : pc + 1 = pc') (k : Wk p.tables e below G (T.setTop (mkF m pc' Ls (.long (x >>> (y &&& 0x3f).toInt64) :: st)))) : Wk p.tables e below G (T.setTop (mkF m pc Ls (.int y :: .long x :: st))) := by
  subst hp
  exact Wk.pu X (fun hA hx hc t q => XS.lshr hA hx rfl (hb hc hd) rfl q) k
theorem Wk.lushr (X : Hr p l e R s m args below meth c Z own bs ml n0 rt T h cells slots) {x : Int64} {y : Int32} (hd : decode bs pc = .ok (.lushr, 1)) (pc' : Nat) (hp : pc + 1 = pc') (k : Wk p.tables e below G (T.setTop (mkF m pc' Ls (.long ((x.toUInt64 >>> (y &&& 0x3f).toInt64.toUInt64).toInt64) :: st)))) : Wk p.tables e below G (T.setTop (mkF m pc Ls (.int y :: .long x :: st))) := by
  subst hp
  exact Wk.pu X (fun hA hx hc t q => XS.lushr hA hx rfl (hb hc hd) rfl q) k
theorem Wk.ineg (X : Hr p l e R s m args below meth c Z own bs ml n0 rt T h cells slots) {x : Int32} (hd : decode bs pc = .ok (.ineg, 1)) (pc' : Nat) (hp : pc + 1 = pc') (k : Wk p.tables e below G (T.setTop (mkF m pc' Ls (.int (-x) :: st)))) : Wk p.tables e below G (T.setTop (mkF m pc Ls (.int x :: st))) := by
  subst hp
  exact Wk.pu X (fun hA hx hc t q => XS.ineg hA hx rfl (hb hc hd) rfl q) k
theorem Wk.i2b (X : Hr p l e R s m args below meth c Z own bs ml n0 rt T h cells slots) {x : Int32} (hd : decode bs pc = .ok (.i2b, 1)) (pc' : Nat) (hp : pc + 1 = pc') (k : Wk p.tables e below G (T.setTop (mkF m pc' Ls (.int (x.toInt8.toInt32) :: st)))) : Wk p.tables e below G (T.setTop (mkF m pc Ls (.int x :: st))) := by
  subst hp
  exact Wk.pu X (fun hA hx hc t q => XS.i2b hA hx rfl (hb hc hd) rfl q) k
theorem Wk.i2c (X : Hr p l e R s m args below meth c Z own bs ml n0 rt T h cells slots) {x : Int32} (hd : decode bs pc = .ok (.i2c, 1)) (pc' : Nat) (hp : pc + 1 = pc') (k : Wk p.tables e below G (T.setTop (mkF m pc' Ls (.int (x.toUInt32.toUInt16.toUInt32.toInt32) :: st)))) : Wk p.tables e below G (T.setTop (mkF m pc Ls (.int x :: st))) := by
  subst hp
  exact Wk.pu X (fun hA hx hc t q => XS.i2c hA hx rfl (hb hc hd) rfl q) k
theorem Wk.i2s (X : Hr p l e R s m args below meth c Z own bs ml n0 rt T h cells slots) {x : Int32} (hd : decode bs pc = .ok (.i2s, 1)) (pc' : Nat) (hp : pc + 1 = pc') (k : Wk p.tables e below G (T.setTop (mkF m pc' Ls (.int (x.toInt16.toInt32) :: st)))) : Wk p.tables e below G (T.setTop (mkF m pc Ls (.int x :: st))) := by
  subst hp
  exact Wk.pu X (fun hA hx hc t q => XS.i2s hA hx rfl (hb hc hd) rfl q) k
theorem Wk.i2l (X : Hr p l e R s m args below meth c Z own bs ml n0 rt T h cells slots) {x : Int32} (hd : decode bs pc = .ok (.i2l, 1)) (pc' : Nat) (hp : pc + 1 = pc') (k : Wk p.tables e below G (T.setTop (mkF m pc' Ls (.long (x.toInt64) :: st)))) : Wk p.tables e below G (T.setTop (mkF m pc Ls (.int x :: st))) := by
  subst hp
  exact Wk.pu X (fun hA hx hc t q => XS.i2l hA hx rfl (hb hc hd) rfl q) k
theorem Wk.l2i (X : Hr p l e R s m args below meth c Z own bs ml n0 rt T h cells slots) {x : Int64} (hd : decode bs pc = .ok (.l2i, 1)) (pc' : Nat) (hp : pc + 1 = pc') (k : Wk p.tables e below G (T.setTop (mkF m pc' Ls (.int (x.toInt32) :: st)))) : Wk p.tables e below G (T.setTop (mkF m pc Ls (.long x :: st))) := by
  subst hp
  exact Wk.pu X (fun hA hx hc t q => XS.l2i hA hx rfl (hb hc hd) rfl q) k
theorem Wk.lneg (X : Hr p l e R s m args below meth c Z own bs ml n0 rt T h cells slots) {x : Int64} (hd : decode bs pc = .ok (.lneg, 1)) (pc' : Nat) (hp : pc + 1 = pc') (k : Wk p.tables e below G (T.setTop (mkF m pc' Ls (.long (-x) :: st)))) : Wk p.tables e below G (T.setTop (mkF m pc Ls (.long x :: st))) := by
  subst hp
  exact Wk.pu X (fun hA hx hc t q => XS.lneg hA hx rfl (hb hc hd) rfl q) k
theorem Wk.lcmp (X : Hr p l e R s m args below meth c Z own bs ml n0 rt T h cells slots) {x y : Int64} (hd : decode bs pc = .ok (.lcmp, 1)) (pc' : Nat) (hp : pc + 1 = pc') (k : Wk p.tables e below G (T.setTop (mkF m pc' Ls (.int (if x > y then 1 else if x = y then 0 else -1) :: st)))) : Wk p.tables e below G (T.setTop (mkF m pc Ls (.long y :: .long x :: st))) := by
  subst hp
  exact Wk.pu X (fun hA hx hc t q => XS.lcmp hA hx rfl (hb hc hd) rfl q) k
theorem Wk.dup (X : Hr p l e R s m args below meth c Z own bs ml n0 rt T h cells slots) {v : Value} (hd : decode bs pc = .ok (.dup, 1)) (pc' : Nat) (hp : pc + 1 = pc') (hv : v.category = 1) (k : Wk p.tables e below G (T.setTop (mkF m pc' Ls (v :: v :: st)))) : Wk p.tables e below G (T.setTop (mkF m pc Ls (v :: st))) := by
  subst hp
  exact Wk.pu X (fun hA hx hc t q => XS.dup hA hx rfl (hb hc hd) rfl hv q) k
theorem Wk.dupX1 (X : Hr p l e R s m args below meth c Z own bs ml n0 rt T h cells slots) {v w : Value} (hd : decode bs pc = .ok (.dup_x1, 1)) (pc' : Nat) (hp : pc + 1 = pc') (hv : v.category = 1) (hw : w.category = 1) (k : Wk p.tables e below G (T.setTop (mkF m pc' Ls (v :: w :: v :: st)))) : Wk p.tables e below G (T.setTop (mkF m pc Ls (v :: w :: st))) := by
  subst hp
  exact Wk.pu X (fun hA hx hc t q => XS.dupX1 hA hx rfl (hb hc hd) rfl hv hw q) k
theorem Wk.pop (X : Hr p l e R s m args below meth c Z own bs ml n0 rt T h cells slots) {v : Value} (hd : decode bs pc = .ok (.pop, 1)) (pc' : Nat) (hp : pc + 1 = pc') (hv : v.category = 1) (k : Wk p.tables e below G (T.setTop (mkF m pc' Ls st))) : Wk p.tables e below G (T.setTop (mkF m pc Ls (v :: st))) := by
  subst hp
  exact Wk.pu X (fun hA hx hc t q => XS.pop hA hx rfl (hb hc hd) rfl hv q) k
theorem Wk.irem (X : Hr p l e R s m args below meth c Z own bs ml n0 rt T h cells slots) {x y : Int32} (hd : decode bs pc = .ok (.irem, 1)) (pc' : Nat) (hp : pc + 1 = pc') (hy : y ≠ 0) (k : Wk p.tables e below G (T.setTop (mkF m pc' Ls (.int (x % y) :: st)))) : Wk p.tables e below G (T.setTop (mkF m pc Ls (.int y :: .int x :: st))) := by
  subst hp
  obtain ⟨⟨locs, Y, N⟩, hx, hc, -⟩ := X
  exact Wk.go (fun t q => iremM (g := mkF m pc Ls (.int y :: .int x :: st)) Y hx rfl (hb hc hd) rfl hy q) k
theorem Wk.idiv (X : Hr p l e R s m args below meth c Z own bs ml n0 rt T h cells slots) {x y : Int32} (hd : decode bs pc = .ok (.idiv, 1)) (pc' : Nat) (hp : pc + 1 = pc') (hy : y ≠ 0) (k : Wk p.tables e below G (T.setTop (mkF m pc' Ls (.int (x / y) :: st)))) : Wk p.tables e below G (T.setTop (mkF m pc Ls (.int y :: .int x :: st))) := by
  subst hp
  exact Wk.pu X (fun hA hx hc t q => XS.idiv hA hx rfl (hb hc hd) rfl hy q) k
theorem Wk.goto (X : Hr p l e R s m args below meth c Z own bs ml n0 rt T h cells slots) {o : Int} (hd : decode bs pc = .ok (.goto o, 3)) (pc' : Nat) (hp : 0 ≤ (pc : Int) + o ∧ ((pc : Int) + o).toNat = pc') (k : Wk p.tables e below G (T.setTop (mkF m pc' Ls st))) : Wk p.tables e below G (T.setTop (mkF m pc Ls st)) :=
  Wk.pu X (fun hA hx hc t q => XS.goto hA hx rfl (pc0 := pc) (pc' := pc') rfl (hb hc hd) hp.1 hp.2 q) k
theorem Wk.icmpT (X : Hr p l e R s m args below meth c Z own bs ml n0 rt T h cells slots) {cd : ClassFile.Cond} {o : Int} {x y : Int32} (hd : decode bs pc = .ok (.if_icmp cd o, 3)) (pt : Nat) (ht : 0 ≤ (pc : Int) + o ∧ ((pc : Int) + o).toNat = pt) (q : cmpT cd x y) (k : Wk p.tables e below G (T.setTop (mkF m pt Ls st))) : Wk p.tables e below G (T.setTop (mkF m pc Ls (.int y :: .int x :: st))) :=
  Wk.pu X (fun hA hx hc t z => XS.icmpYes hA hx rfl (pc0 := pc) (pc' := pt) rfl (hb hc hd) rfl (cmp_t q) ht.1 ht.2 z) k
theorem Wk.icmpF (X : Hr p l e R s m args below meth c Z own bs ml n0 rt T h cells slots) {cd : ClassFile.Cond} {o : Int} {x y : Int32} (hd : decode bs pc = .ok (.if_icmp cd o, 3)) (pf : Nat) (hf : pc + 3 = pf) (q : cmpF cd x y) (k : Wk p.tables e below G (T.setTop (mkF m pf Ls st))) : Wk p.tables e below G (T.setTop (mkF m pc Ls (.int y :: .int x :: st))) := by
  subst hf
  exact Wk.pu X (fun hA hx hc t z => XS.icmpNo hA hx rfl (hb hc hd) rfl (cmp_f q) z) k
theorem Wk.icmp (X : Hr p l e R s m args below meth c Z own bs ml n0 rt T h cells slots) {cd : ClassFile.Cond} {o : Int} {x y : Int32} (hd : decode bs pc = .ok (.if_icmp cd o, 3)) (pt pf : Nat) (ht : 0 ≤ (pc : Int) + o ∧ ((pc : Int) + o).toNat = pt) (hf : pc + 3 = pf) (kt : cmpT cd x y → Wk p.tables e below G (T.setTop (mkF m pt Ls st))) (kf : cmpF cd x y → Wk p.tables e below G (T.setTop (mkF m pf Ls st))) : Wk p.tables e below G (T.setTop (mkF m pc Ls (.int y :: .int x :: st))) :=
  (cmp_or cd x y).elim (fun q => Wk.icmpT X hd pt ht q (kt q)) (fun q => Wk.icmpF X hd pf hf q (kf q))
theorem Wk.ifcT (X : Hr p l e R s m args below meth c Z own bs ml n0 rt T h cells slots) {cd : ClassFile.Cond} {o : Int} {x : Int32} (hd : decode bs pc = .ok (.ifCond cd o, 3)) (pt : Nat) (ht : 0 ≤ (pc : Int) + o ∧ ((pc : Int) + o).toNat = pt) (q : cmpT cd x 0) (k : Wk p.tables e below G (T.setTop (mkF m pt Ls st))) : Wk p.tables e below G (T.setTop (mkF m pc Ls (.int x :: st))) :=
  Wk.pu X (fun hA hx hc t z => XS.ifYes hA hx rfl (pc0 := pc) (pc' := pt) rfl (hb hc hd) rfl ((if0 _ _).trans (cmp_t q)) ht.1 ht.2 z) k
theorem Wk.ifcF (X : Hr p l e R s m args below meth c Z own bs ml n0 rt T h cells slots) {cd : ClassFile.Cond} {o : Int} {x : Int32} (hd : decode bs pc = .ok (.ifCond cd o, 3)) (pf : Nat) (hf : pc + 3 = pf) (q : cmpF cd x 0) (k : Wk p.tables e below G (T.setTop (mkF m pf Ls st))) : Wk p.tables e below G (T.setTop (mkF m pc Ls (.int x :: st))) := by
  subst hf
  exact Wk.pu X (fun hA hx hc t z => XS.ifNo hA hx rfl (hb hc hd) rfl ((if0 _ _).trans (cmp_f q)) z) k
theorem Wk.ifc (X : Hr p l e R s m args below meth c Z own bs ml n0 rt T h cells slots) {cd : ClassFile.Cond} {o : Int} {x : Int32} (hd : decode bs pc = .ok (.ifCond cd o, 3)) (pt pf : Nat) (ht : 0 ≤ (pc : Int) + o ∧ ((pc : Int) + o).toNat = pt) (hf : pc + 3 = pf) (kt : cmpT cd x 0 → Wk p.tables e below G (T.setTop (mkF m pt Ls st))) (kf : cmpF cd x 0 → Wk p.tables e below G (T.setTop (mkF m pf Ls st))) : Wk p.tables e below G (T.setTop (mkF m pc Ls (.int x :: st))) :=
  (cmp_or cd x 0).elim (fun q => Wk.ifcT X hd pt ht q (kt q)) (fun q => Wk.ifcF X hd pf hf q (kf q))
theorem Wk.ifnullT (X : Hr p l e R s m args below meth c Z own bs ml n0 rt T h cells slots) {o : Int} (hd : decode bs pc = .ok (.ifnull o, 3)) (pt : Nat) (ht : 0 ≤ (pc : Int) + o ∧ ((pc : Int) + o).toNat = pt) (k : Wk p.tables e below G (T.setTop (mkF m pt Ls st))) : Wk p.tables e below G (T.setTop (mkF m pc Ls (.null :: st))) :=
  Wk.pu X (fun hA hx hc t z => XS.ifnullYes hA hx rfl (pc0 := pc) (pc' := pt) rfl (hb hc hd) rfl ht.1 ht.2 z) k
theorem Wk.ifnullF (X : Hr p l e R s m args below meth c Z own bs ml n0 rt T h cells slots) {o : Int} {b : Addr} (hd : decode bs pc = .ok (.ifnull o, 3)) (pf : Nat) (hf : pc + 3 = pf) (k : Wk p.tables e below G (T.setTop (mkF m pf Ls st))) : Wk p.tables e below G (T.setTop (mkF m pc Ls (.ref b :: st))) := by
  subst hf
  exact Wk.pu X (fun hA hx hc t z => XS.ifnullNo hA hx rfl (hb hc hd) rfl z) k
theorem Wk.ifnonnullT (X : Hr p l e R s m args below meth c Z own bs ml n0 rt T h cells slots) {o : Int} {b : Addr} (hd : decode bs pc = .ok (.ifnonnull o, 3)) (pt : Nat) (ht : 0 ≤ (pc : Int) + o ∧ ((pc : Int) + o).toNat = pt) (k : Wk p.tables e below G (T.setTop (mkF m pt Ls st))) : Wk p.tables e below G (T.setTop (mkF m pc Ls (.ref b :: st))) :=
  Wk.pu X (fun hA hx hc t z => XS.ifnonnullYes hA hx rfl (pc0 := pc) (pc' := pt) rfl (hb hc hd) rfl ht.1 ht.2 z) k
theorem Wk.ifnonnullF (X : Hr p l e R s m args below meth c Z own bs ml n0 rt T h cells slots) {o : Int} (hd : decode bs pc = .ok (.ifnonnull o, 3)) (pf : Nat) (hf : pc + 3 = pf) (k : Wk p.tables e below G (T.setTop (mkF m pf Ls st))) : Wk p.tables e below G (T.setTop (mkF m pc Ls (.null :: st))) := by
  subst hf
  exact Wk.pu X (fun hA hx hc t z => XS.ifnonnullNo hA hx rfl (hb hc hd) rfl z) k
theorem Wk.acmpT (X : Hr p l e R s m args below meth c Z own bs ml n0 rt T h cells slots) {cd : ClassFile.ACond} {o : Int} {a b : Addr} (hd : decode bs pc = .ok (.if_acmp cd o, 3)) (pt : Nat) (ht : 0 ≤ (pc : Int) + o ∧ ((pc : Int) + o).toNat = pt) (q : if_acmp.holds cd (some a) (some b) = true) (k : Wk p.tables e below G (T.setTop (mkF m pt Ls st))) : Wk p.tables e below G (T.setTop (mkF m pc Ls (.ref b :: .ref a :: st))) :=
  Wk.pu X (fun hA hx hc t z => XS.acmpYes hA hx rfl (pc0 := pc) (pc' := pt) rfl (hb hc hd) rfl q ht.1 ht.2 z) k
theorem Wk.acmpF (X : Hr p l e R s m args below meth c Z own bs ml n0 rt T h cells slots) {cd : ClassFile.ACond} {o : Int} {a b : Addr} (hd : decode bs pc = .ok (.if_acmp cd o, 3)) (pf : Nat) (hf : pc + 3 = pf) (q : if_acmp.holds cd (some a) (some b) = false) (k : Wk p.tables e below G (T.setTop (mkF m pf Ls st))) : Wk p.tables e below G (T.setTop (mkF m pc Ls (.ref b :: .ref a :: st))) := by
  subst hf
  exact Wk.pu X (fun hA hx hc t z => XS.acmpNo hA hx rfl (hb hc hd) rfl q z) k
theorem Wk.ldcInt (X : Hr p l e R s m args below meth c Z own bs ml n0 rt T h cells slots) {i : Nat} {v : Int32} (w : (Cond.constant own i v).before a0 Z = true) (hd : decode bs pc = .ok (.ldc i, 2)) (pc' : Nat) (hp : pc + 2 = pc') (k : Wk p.tables e below G (T.setTop (mkF m pc' Ls (.int v :: st)))) : Wk p.tables e below G (T.setTop (mkF m pc Ls st)) := by
  subst hp
  obtain ⟨⟨locs, Y, N⟩, hx, hc, -, hZ, ho, -⟩ := X
  exact Wk.go (fun t q => Y.ldcInt hx ho (mvT hZ w) (g := mkF m pc Ls st) rfl (hb hc hd) t q) k
theorem Wk.ldc2Long (X : Hr p l e R s m args below meth c Z own bs ml n0 rt T h cells slots) {i : Nat} {v : Int64} (w : (Cond.constantLong own i v).before a0 Z = true) (hd : decode bs pc = .ok (.ldc2_w i, 3)) (pc' : Nat) (hp : pc + 3 = pc') (k : Wk p.tables e below G (T.setTop (mkF m pc' Ls (.long v :: st)))) : Wk p.tables e below G (T.setTop (mkF m pc Ls st)) := by
  subst hp
  obtain ⟨⟨locs, Y, N⟩, hx, hc, -, hZ, ho, -⟩ := X
  exact Wk.go (fun t q => Y.ldc2Long hx ho (mvT hZ w) (g := mkF m pc Ls st) rfl (hb hc hd) t q) k
theorem Arl.at {a : Addr} {ty : FieldType} {us : List Value} {j : Int32} {i : Nat} {v : Value} (A : Arl Z h a ty us) (hj : j.toInt = i) (hv : us[i]? = some v) : ∃ cl : Cell, Arr Z h a cl ty ∧ ¬ (j < 0 ∨ cl.slots.size ≤ j.toNatClampNeg) ∧ cl.slots[j.toNatClampNeg]? = some v := by
  obtain ⟨cl, A, r1, r2⟩ := A
  have hi : i < us.length := (List.getElem?_eq_some_iff.mp hv).1
  have q := ix_in (n := cl.slots.size) hj (by rw [r1]; simpa using hi)
  exact ⟨cl, A, q.1, by rw [q.2, r1]; simpa using hv⟩
theorem Wk.iaload (X : Hr p l e R s m args below meth c Z own bs ml n0 rt T h cells slots) {a : Addr} {us : List Value} {j : Int32} {v : Value} (A : Arl Z h a .int us) (i : Nat) (hj : j.toInt = i) (hv : us[i]? = some v) (hd : decode bs pc = .ok (.iaload, 1)) (pc' : Nat) (hp : pc + 1 = pc') (k : Wk p.tables e below G (T.setTop (mkF m pc' Ls (v :: st)))) : Wk p.tables e below G (T.setTop (mkF m pc Ls (.int j :: .ref a :: st))) := by
  subst hp
  obtain ⟨⟨locs, Y, N⟩, hx, hc, -, hZ, ho, -, -, eT⟩ := X
  obtain ⟨cl, A, q1, q2⟩ := A.at hj hv
  exact Wk.go (fun t q => Y.iaload hx (by rw [eT]; exact A.1) (State.isArrayOf_alike hZ.alike A.2.1) A.2.2 q1 q2 (g := mkF m pc Ls (.int j :: .ref a :: st)) rfl rfl (hb hc hd) t q) k
theorem Wk.laload (X : Hr p l e R s m args below meth c Z own bs ml n0 rt T h cells slots) {a : Addr} {us : List Value} {j : Int32} {v : Value} (A : Arl Z h a .long us) (i : Nat) (hj : j.toInt = i) (hv : us[i]? = some v) (hd : decode bs pc = .ok (.laload, 1)) (pc' : Nat) (hp : pc + 1 = pc') (k : Wk p.tables e below G (T.setTop (mkF m pc' Ls (v :: st)))) : Wk p.tables e below G (T.setTop (mkF m pc Ls (.int j :: .ref a :: st))) := by
  subst hp
  obtain ⟨⟨locs, Y, N⟩, hx, hc, -, hZ, ho, -, -, eT⟩ := X
  obtain ⟨cl, A, q1, q2⟩ := A.at hj hv
  exact Wk.go (fun t q => Y.laload hx (by rw [eT]; exact A.1) (State.isArrayOf_alike hZ.alike A.2.1) A.2.2 q1 q2 (g := mkF m pc Ls (.int j :: .ref a :: st)) rfl rfl (hb hc hd) t q) k
theorem Wk.baload (X : Hr p l e R s m args below meth c Z own bs ml n0 rt T h cells slots) {a : Addr} {us : List Value} {j : Int32} {v : Value} (A : Arl Z h a .byte us) (i : Nat) (hj : j.toInt = i) (hv : us[i]? = some v) (hd : decode bs pc = .ok (.baload, 1)) (pc' : Nat) (hp : pc + 1 = pc') (k : Wk p.tables e below G (T.setTop (mkF m pc' Ls (v :: st)))) : Wk p.tables e below G (T.setTop (mkF m pc Ls (.int j :: .ref a :: st))) := by
  subst hp
  obtain ⟨⟨locs, Y, N⟩, hx, hc, -, hZ, ho, -, -, eT⟩ := X
  obtain ⟨cl, A, q1, q2⟩ := A.at hj hv
  exact Wk.go (fun t q => Y.baloadBytes hx (by rw [eT]; exact A.1) (State.isArrayOf_alike hZ.alike A.2.1) A.2.2 q1 q2 (g := mkF m pc Ls (.int j :: .ref a :: st)) rfl rfl (hb hc hd) t q) k
theorem Wk.arraylength (X : Hr p l e R s m args below meth c Z own bs ml n0 rt T h cells slots) {a : Addr} {ty : FieldType} {us : List Value} (A : Arl Z h a ty us) (hd : decode bs pc = .ok (.arraylength, 1)) (pc' : Nat) (hp : pc + 1 = pc') (z : Int32) (hz : us.length.toInt32 = z) (k : Wk p.tables e below G (T.setTop (mkF m pc' Ls (.int z :: st)))) : Wk p.tables e below G (T.setTop (mkF m pc Ls (.ref a :: st))) := by
  subst hp hz
  obtain ⟨⟨locs, Y, N⟩, hx, hc, -, hZ, ho, -, -, eT⟩ := X
  obtain ⟨cl, A, r1, r2⟩ := A
  have hs : cl.slots.size = us.length := by rw [r1]; simp
  rw [← hs] at k
  exact Wk.go (fun t q => Y.arraylength hx (by rw [eT]; exact A.1) (State.isArrayOf_alike hZ.alike A.2.1) (g := mkF m pc Ls (.ref a :: st)) rfl rfl (hb hc hd) t q) k
theorem Wk.getfield (X : Hr p l e R s m args below meth c Z own bs ml n0 rt T h cells slots) {i : Nat} {R0 O n d : String} {a : Addr} {v : Value} (w : (Cond.fieldLink own i R0 n d).before a0 Z = true) (via : Via Z R0 O n d) (F : Fld Z h a O n d v) (hd : decode bs pc = .ok (.getfield i, 3)) (pc' : Nat) (hp : pc + 3 = pc')
    (k : ∀ T', Hr p l e R s m args below meth c Z own bs ml n0 rt T' h cells slots → Wk p.tables e below G (T'.setTop (mkF m pc' Ls (v :: st)))) : Wk p.tables e below G (T.setTop (mkF m pc Ls (.ref a :: st))) := by
  subst hp
  obtain ⟨⟨locs, Y, N⟩, hx, hc, hm, hZ, ho, hr, hl, eT⟩ := X
  obtain ⟨T', Y', e', q⟩ := getF Y hx hZ ho (host := "") (Or.inl w) via eT F (g := mkF m pc Ls (.ref a :: st)) rfl rfl (hb hc hd)
  exact Wk.go q (k T' ⟨⟨locs, Y', N⟩, hx, hc, hm, hZ, ho, hr, hl, e'⟩)
theorem Wk.putfield (X : Hr p l e R s m args below meth c Z own bs ml n0 rt T h cells slots) {i kk : Nat} {R0 O n d C : String} {ty : FieldType} {a : Addr} {v old : Value} (w : (Cond.fieldLink own i R0 n d).before a0 Z = true) (via : Via Z R0 O n d) (F : Fld Z h a O n d old) (E : Exa Z h a C) (L : (Cond.lays C O n d).before a0 Z = true ∨ ((Cond.laysFinal C O n d).before a0 Z = true ∧ own = O ∧ meth.name = "<init>")) (wi : (Cond.instantiable C kk).before a0 Z = true)
    (hty : parseFieldDescriptor d = some ty) (hn : narrow ty v = v) (hf : fits ty v = true) (hnew : n0 ≤ a) (hd : decode bs pc = .ok (.putfield i, 3)) (pc' : Nat) (hp : pc + 3 = pc')
    (k : ∀ T' h', Hr p l e R s m args below meth c Z own bs ml n0 rt T' h' cells slots → Wr h h' a (Jvm.RoadKit.slotOf Z O n d) v → Wk p.tables e below G (T'.setTop (mkF m pc' Ls st))) : Wk p.tables e below G (T.setTop (mkF m pc Ls (v :: .ref a :: st))) := by
  subst hp
  obtain ⟨⟨locs, Y, N⟩, hx, hc, hm, hZ, ho, hr, hl, eT⟩ := X
  obtain ⟨T', h', Y', e', W, q⟩ := putF Y hx hZ ho (host := "") (Or.inl w) via eT F E L wi hty hn hf (g := mkF m pc Ls (v :: .ref a :: st)) rfl rfl (hb hc hd)
  exact Wk.go q (k T' h' ⟨⟨_, Y', Fr.snoc Y' N hnew⟩, hx, hc, hm, hZ, ho, hr, hl, e'⟩ W)
theorem Wk.getstatic (X : Hr p l e R s m args below meth c Z own bs ml n0 rt T h cells slots) {i : Nat} {R0 O n d : String} {v : Value} (w : (Cond.fieldLink own i R0 n d).before a0 Z = true) (via : Via Z R0 O n d) (F : Sta Z h O n d v) (hd : decode bs pc = .ok (.getstatic i, 3)) (pc' : Nat) (hp : pc + 3 = pc')
    (k : ∀ T', Hr p l e R s m args below meth c Z own bs ml n0 rt T' h cells slots → Wk p.tables e below G (T'.setTop (mkF m pc' Ls (v :: st)))) : Wk p.tables e below G (T.setTop (mkF m pc Ls st)) := by
  subst hp
  obtain ⟨⟨locs, Y, N⟩, hx, hc, hm, hZ, ho, hr, hl, eT⟩ := X
  obtain ⟨T', Y', e', q⟩ := getS Y hx hZ (host := "") ho w via eT F (g := mkF m pc Ls st) rfl (hb hc hd)
  exact Wk.go q (k T' ⟨⟨locs, Y', N⟩, hx, hc, hm, hZ, ho, hr, hl, e'⟩)
theorem Wk.new (X : Hr p l e R s m args below meth c Z own bs ml n0 rt T h cells slots) {i n : Nat} {C : String} (w : (Cond.classLink own i C).before a0 Z = true) (wi : (Cond.instantiable C n).before a0 Z = true) (wz : (Cond.initialized C).before a0 Z = true) (hd : decode bs pc = .ok (.new i, 3)) (pc' : Nat) (hp : pc + 3 = pc') (hce : cells + 1 ≤ R.cells) (hsl : slots + n ≤ R.slots)
    (k : ∀ T' h' a, a = h.size → Hr p l e R s m args below meth c Z own bs ml n0 rt T' h' (cells + 1) (slots + n) → Ext h h' → Exa Z h' a C → (∀ {O nm d : String} {ty : FieldType}, Laid Z a0 C O nm d → parseFieldDescriptor d = some ty → Fld Z h' a O nm d (defaultValue ty)) → Wk p.tables e below G (T'.setTop (mkF m pc' Ls (.ref a :: st)))) : Wk p.tables e below G (T.setTop (mkF m pc Ls st)) := by
  subst hp
  obtain ⟨⟨locs, Y, N⟩, hx, hc, hm, hZ, ho, hr, hl, eT⟩ := X
  obtain ⟨T', h', Y', e', E, A, D, -, q⟩ := newO Y hx hZ ho w wi wz eT (g := mkF m pc Ls st) rfl (hb hc hd) hce hsl
  exact Wk.go q (k T' h' _ rfl ⟨⟨_, Y', N⟩, hx, hc, hm, hZ, ho, hr, hl, e'⟩ E A D)
theorem Wk.newarray (X : Hr p l e R s m args below meth c Z own bs ml n0 rt T h cells slots) {aty : ArrayType} {n : Int32} (w : (Cond.arrayClass (newarray.typeOf aty)).before a0 Z = true) (hd : decode bs pc = .ok (.newarray aty, 2)) (pc' : Nat) (hp : pc + 2 = pc') (i : Nat) (hn : n.toInt = i) (cap : Nat) (hcap : i ≤ cap) (hbig : cap * 8 ≤ 536870912) (hce : cells + 1 ≤ R.cells) (hsl : slots + cap ≤ R.slots)
    (k : ∀ T' h' a, a = h.size → Hr p l e R s m args below meth c Z own bs ml n0 rt T' h' (cells + 1) (slots + cap) → Ext h h' → Arl Z h' a (newarray.typeOf aty) (List.replicate i (defaultValue (newarray.typeOf aty))) → Wk p.tables e below G (T'.setTop (mkF m pc' Ls (.ref a :: st)))) : Wk p.tables e below G (T.setTop (mkF m pc Ls (.int n :: st))) := by
  subst hp
  obtain ⟨⟨locs, Y, N⟩, hx, hc, hm, hZ, ho, hr, hl, eT⟩ := X
  have hi : n.toNatClampNeg = i := by simp [Int32.toNatClampNeg, hn]
  have h0 : ¬ n < 0 := by rw [Int32.lt_iff_toInt_lt, hn]; simp only [Int32.reduceToInt]; omega
  obtain ⟨T', h', cA, Y', e', E, A, q⟩ := newP Y hx hZ w eT (g := mkF m pc Ls (.int n :: st)) rfl (hb hc hd) rfl h0 (cap := cap) (by rw [hi]; exact hcap) hbig hce hsl
  refine Wk.go q (k T' h' _ rfl ⟨⟨_, Y', N⟩, hx, hc, hm, hZ, ho, hr, hl, e'⟩ E ⟨_, A, ?_, by simp; omega⟩)
  simp [newA, hi]
theorem Wk.iastore (X : Hr p l e R s m args below meth c Z own bs ml n0 rt T h cells slots) {a : Addr} {us : List Value} {j v : Int32} (A : Arl Z h a .int us) (hnew : n0 ≤ a) (i : Nat) (hj : j.toInt = i) (hi : i < us.length) (hd : decode bs pc = .ok (.iastore, 1)) (pc' : Nat) (hp : pc + 1 = pc')
    (k : ∀ T' h', Hr p l e R s m args below meth c Z own bs ml n0 rt T' h' cells slots → Wr h h' a i (.int v) → Wk p.tables e below G (T'.setTop (mkF m pc' Ls st))) : Wk p.tables e below G (T.setTop (mkF m pc Ls (.int v :: .int j :: .ref a :: st))) := by
  subst hp
  obtain ⟨⟨locs, Y, N⟩, hx, hc, hm, hZ, ho, hr, hl, eT⟩ := X
  obtain ⟨cl, A, q1, -⟩ := A.at hj (List.getElem?_eq_getElem hi)
  obtain ⟨T', h', Y', e', W, q⟩ := stI Y hx hZ eT A q1 (g := mkF m pc Ls (.int v :: .int j :: .ref a :: st)) rfl rfl (hb hc hd)
  rw [(ix_in hj hi).2] at W
  exact Wk.go q (k T' h' ⟨⟨_, Y', Fr.snoc Y' N hnew⟩, hx, hc, hm, hZ, ho, hr, hl, e'⟩ W)
theorem Wk.lastore (X : Hr p l e R s m args below meth c Z own bs ml n0 rt T h cells slots) {a : Addr} {us : List Value} {j : Int32} {v : Int64} (A : Arl Z h a .long us) (hnew : n0 ≤ a) (i : Nat) (hj : j.toInt = i) (hi : i < us.length) (hd : decode bs pc = .ok (.lastore, 1)) (pc' : Nat) (hp : pc + 1 = pc')
    (k : ∀ T' h', Hr p l e R s m args below meth c Z own bs ml n0 rt T' h' cells slots → Wr h h' a i (.long v) → Wk p.tables e below G (T'.setTop (mkF m pc' Ls st))) : Wk p.tables e below G (T.setTop (mkF m pc Ls (.long v :: .int j :: .ref a :: st))) := by
  subst hp
  obtain ⟨⟨locs, Y, N⟩, hx, hc, hm, hZ, ho, hr, hl, eT⟩ := X
  obtain ⟨cl, A, q1, -⟩ := A.at hj (List.getElem?_eq_getElem hi)
  obtain ⟨T', h', Y', e', W, q⟩ := stJ Y hx hZ eT A q1 (g := mkF m pc Ls (.long v :: .int j :: .ref a :: st)) rfl rfl (hb hc hd)
  rw [(ix_in hj hi).2] at W
  exact Wk.go q (k T' h' ⟨⟨_, Y', Fr.snoc Y' N hnew⟩, hx, hc, hm, hZ, ho, hr, hl, e'⟩ W)
theorem Wk.bastore (X : Hr p l e R s m args below meth c Z own bs ml n0 rt T h cells slots) {a : Addr} {us : List Value} {j v : Int32} (A : Arl Z h a .byte us) (hnew : n0 ≤ a) (i : Nat) (hj : j.toInt = i) (hi : i < us.length) (hd : decode bs pc = .ok (.bastore, 1)) (pc' : Nat) (hp : pc + 1 = pc')
    (k : ∀ T' h', Hr p l e R s m args below meth c Z own bs ml n0 rt T' h' cells slots → Wr h h' a i (.int v.toInt8.toInt32) → Wk p.tables e below G (T'.setTop (mkF m pc' Ls st))) : Wk p.tables e below G (T.setTop (mkF m pc Ls (.int v :: .int j :: .ref a :: st))) := by
  subst hp
  obtain ⟨⟨locs, Y, N⟩, hx, hc, hm, hZ, ho, hr, hl, eT⟩ := X
  obtain ⟨cl, A, q1, -⟩ := A.at hj (List.getElem?_eq_getElem hi)
  obtain ⟨T', h', Y', e', W, q⟩ := stB Y hx hZ eT A q1 (g := mkF m pc Ls (.int v :: .int j :: .ref a :: st)) rfl rfl (hb hc hd)
  rw [(ix_in hj hi).2] at W
  exact Wk.go q (k T' h' ⟨⟨_, Y', Fr.snoc Y' N hnew⟩, hx, hc, hm, hZ, ho, hr, hl, e'⟩ W)
theorem Wk.callS (X : Hr p l e R s m args below meth c Z own bs ml n0 rt T h cells slots) {i : Nat} {y : MethodName} {bytes : ByteArray} {maxL : Nat} {rt' : Option FieldType} {rm : Room} {as' : Array Value} {Q : Option Value → Heap → Prop} (w1 : (Cond.methodLink own i y).before a0 Z = true) (w2 : (Cond.static y).before a0 Z = true) (w3 : (Cond.initialized y.cls).before a0 Z = true) (w4 : (Cond.code y bytes maxL rt').before a0 Z = true) (hM : Con l y bytes maxL rt' rm [] Z as' h n0 Q)
    (hy : y.cls ≠ "java/lang/invoke/MethodHandle" ∧ y.cls ≠ "java/lang/invoke/VarHandle") {ps : List FieldType} {r : Option FieldType} (hds : parseMethodDescriptor y.desc = some ⟨ps, r⟩) (argsL rest : List Value) (hlen : argsL.length = ps.length) (hst : st = argsL.reverse ++ rest) (has : argsL.toArray = as') (hls : Ls.size = ml) (W : Nat) (hW : (rest.map fun v => v.category).sum ≤ W) (hfr : rm.frames + 1 ≤ R.frames) (hlo : W + (maxL + 11) + rm.locals ≤ R.locals) (hce : cells + rm.cells ≤ R.cells) (hsl : slots + rm.slots ≤ R.slots) (cells' slots' : Nat) (hc' : cells + rm.cells = cells') (hs' : slots + rm.slots = slots')
    (hd : decode bs pc = .ok (.invokestatic i, 3)) (pc' : Nat) (hp : pc + 3 = pc')
    (k : ∀ v T' h', Hr p l e R s m args below meth c Z own bs ml n0 rt T' h' cells' slots' → Q v h' → Wk p.tables e below G (T'.setTop (mkF m pc' Ls (v.toList ++ rest)))) : Wk p.tables e below G (T.setTop (mkF m pc Ls st)) := by
  subst hp hc' hs' hst has
  obtain ⟨⟨locs, Y, N⟩, hx, hc, hm, hZ, ho, hr, hl, eT⟩ := X
  obtain ⟨v, _, ⟨T1, L1, k1, n1⟩, -, Y1, ⟨Lc, hQ, l1, y1, z1⟩, q⟩ := Jvm.LawKit.callS Y hx (y := y) ho (mvT hZ w1) (mvT hZ w2) (mvT hZ w3) (mvT hZ w4) hy (backOf (W := W) (Q := fun v h L => Q v h ∧ Fr n0 L) hM hZ w4 w3 hfr hlo) (g := mkF m pc Ls (argsL.reverse ++ rest)) rfl (by rw [hm]; exact hls) (argsL := argsL) (rest := rest) (lenOf hds hlen) rfl (by show 2 * 0 + _ ≤ _; omega) (hb hc hd) (fun _ _ => ⟨rfl, eT, hce, hsl⟩)
  dsimp only [Pt.U, Pt.locs, Pt.cells, Pt.slots] at Y1 l1 y1 z1 q hQ
  subst l1 y1 z1
  exact Wk.go q (k v T1 T1.heap ⟨⟨_, Y1, Fr.app N hQ.2⟩, hx, hc, hm, hZ, ho, hr, hl, rfl⟩ hQ.1)
theorem Wk.callI (X : Hr p l e R s m args below meth c Z own bs ml n0 rt T h cells slots) {i : Nat} {y : MethodName} {bytes : ByteArray} {maxL : Nat} {rm : Room} {as' : Array Value} {a : Addr} {Q : Option Value → Heap → Prop} (hini : y.name = "<init>") (w1 : (Cond.methodLink own i y).before a0 Z = true) (w2 : (Cond.instanceMethod y).before a0 Z = true) (w3 : (Cond.initialized y.cls).before a0 Z = true) (w4 : (Cond.code y bytes maxL none).before a0 Z = true) (hM : Con l y bytes maxL none rm [] Z as' h n0 Q)
    (hy : y.cls ≠ "java/lang/invoke/MethodHandle" ∧ y.cls ≠ "java/lang/invoke/VarHandle") {ps : List FieldType} {r : Option FieldType} (hds : parseMethodDescriptor y.desc = some ⟨ps, r⟩) (argsL rest : List Value) (hlen : argsL.length = ps.length) (hst : st = argsL.reverse ++ .ref a :: rest) (has : (.ref a :: argsL).toArray = as') (hls : Ls.size = ml) (W : Nat) (hW : (rest.map fun v => v.category).sum ≤ W) (hfr : rm.frames + 1 ≤ R.frames) (hlo : W + (maxL + 11) + rm.locals ≤ R.locals) (hce : cells + rm.cells ≤ R.cells) (hsl : slots + rm.slots ≤ R.slots) (cells' slots' : Nat) (hc' : cells + rm.cells = cells') (hs' : slots + rm.slots = slots')
    (hd : decode bs pc = .ok (.invokespecial i, 3)) (pc' : Nat) (hp : pc + 3 = pc')
    (k : ∀ v T' h', Hr p l e R s m args below meth c Z own bs ml n0 rt T' h' cells' slots' → Q v h' → Wk p.tables e below G (T'.setTop (mkF m pc' Ls (v.toList ++ rest)))) : Wk p.tables e below G (T.setTop (mkF m pc Ls st)) := by
  subst hp hc' hs' hst has
  obtain ⟨⟨locs, Y, N⟩, hx, hc, hm, hZ, ho, hr, hl, eT⟩ := X
  obtain ⟨v, _, ⟨T1, L1, k1, n1⟩, -, Y1, ⟨Lc, hQ, l1, y1, z1⟩, q⟩ := Y.specialBack hx (y := y) hini ho (mvT hZ w1) (mvT hZ w2) (mvT hZ w4) hy (backOf (W := W) (Q := fun v h L => Q v h ∧ Fr n0 L) hM hZ w4 w3 hfr hlo) (g := mkF m pc Ls (argsL.reverse ++ .ref a :: rest)) rfl (by rw [hm]; exact hls) (Steps.refl _) (a := a) (argsL := argsL) (rest := rest) (lenOf hds hlen) rfl (by show 2 * 0 + _ ≤ _; omega) (hb hc hd) (fun _ _ => ⟨rfl, eT, hce, hsl⟩)
  dsimp only [Pt.U, Pt.locs, Pt.cells, Pt.slots] at Y1 l1 y1 z1 q hQ
  subst l1 y1 z1
  exact Wk.go (fun t z => q.trans z) (k v T1 T1.heap ⟨⟨_, Y1, Fr.app N hQ.2⟩, hx, hc, hm, hZ, ho, hr, hl, rfl⟩ hQ.1)
theorem Wk.callV (X : Hr p l e R s m args below meth c Z own bs ml n0 rt T h cells slots) {i : Nat} {y : MethodName} {C : String} {bytes : ByteArray} {maxL : Nat} {rt' : Option FieldType} {rm : Room} {as' : Array Value} {a : Addr} {Q : Option Value → Heap → Prop} (w1 : (Cond.methodLink own i y).before a0 Z = true) (wd : (Cond.declares y).before a0 Z = true) (ws : (Cond.selects C y y).before a0 Z = true) (w2 : (Cond.instanceMethod y).before a0 Z = true) (w3 : (Cond.initialized y.cls).before a0 Z = true) (w4 : (Cond.code y bytes maxL rt').before a0 Z = true) (E : Exa Z h a C) (hM : Con l y bytes maxL rt' rm [] Z as' h n0 Q)
    (hy : y.cls ≠ "java/lang/invoke/MethodHandle" ∧ y.cls ≠ "java/lang/invoke/VarHandle") {ps : List FieldType} {r : Option FieldType} (hds : parseMethodDescriptor y.desc = some ⟨ps, r⟩) (argsL rest : List Value) (hlen : argsL.length = ps.length) (hst : st = argsL.reverse ++ .ref a :: rest) (has : (.ref a :: argsL).toArray = as') (hls : Ls.size = ml) (W : Nat) (hW : (rest.map fun v => v.category).sum ≤ W) (hfr : rm.frames + 1 ≤ R.frames) (hlo : W + (maxL + 11) + rm.locals ≤ R.locals) (hce : cells + rm.cells ≤ R.cells) (hsl : slots + rm.slots ≤ R.slots) (cells' slots' : Nat) (hc' : cells + rm.cells = cells') (hs' : slots + rm.slots = slots')
    (hd : decode bs pc = .ok (.invokevirtual i, 3)) (pc' : Nat) (hp : pc + 3 = pc')
    (k : ∀ v T' h', Hr p l e R s m args below meth c Z own bs ml n0 rt T' h' cells' slots' → Q v h' → Wk p.tables e below G (T'.setTop (mkF m pc' Ls (v.toList ++ rest)))) : Wk p.tables e below G (T.setTop (mkF m pc Ls st)) := by
  subst hp hc' hs' hst has
  obtain ⟨⟨locs, Y, N⟩, hx, hc, hm, hZ, ho, hr, hl, eT⟩ := X
  obtain ⟨cq, kq, qa, qb, qc⟩ := isOf hZ eT E
  obtain ⟨v, _, ⟨T1, L1, k1, n1⟩, -, Y1, ⟨Lc, hQ, l1, y1, z1⟩, q⟩ := Y.virtualBack hx (y := y) (z := y) ho (mvT hZ w1) (mvT hZ wd) (notFace_of_selects (args := #[]) (mvT hZ ws)) (mvT hZ ws) (mvT hZ w2) hy (backOf (W := W) (Q := fun v h L => Q v h ∧ Fr n0 L) hM hZ w4 w3 hfr hlo) qa qc (g := mkF m pc Ls (argsL.reverse ++ .ref a :: rest)) rfl (by rw [hm]; exact hls) (Steps.refl _) (argsL := argsL) (rest := rest) (lenOf hds hlen) rfl (by show 2 * 0 + _ ≤ _; omega) (hb hc hd) (fun _ _ => ⟨rfl, eT, hce, hsl⟩)
  dsimp only [Pt.U, Pt.locs, Pt.cells, Pt.slots] at Y1 l1 y1 z1 q hQ
  subst l1 y1 z1
  exact Wk.go (fun t z => q.trans z) (k v T1 T1.heap ⟨⟨_, Y1, Fr.app N hQ.2⟩, hx, hc, hm, hZ, ho, hr, hl, rfl⟩ hQ.1)
theorem Hr.more (X : Hr p l e R s m args below meth c Z own bs ml n0 rt T h cells slots) {cells' slots' : Nat} (h1 : cells ≤ cells') (h2 : slots ≤ slots') : Hr p l e R s m args below meth c Z own bs ml n0 rt T h cells' slots' := by
  obtain ⟨⟨locs, Y, N⟩, r⟩ := X
  exact ⟨⟨locs, Y.more h1 h2, N⟩, r⟩
variable {Q : Option Value → Heap → Prop} {C N : Nat}
theorem Wk.ireturn (X : Hr p l e R s m args below meth c Z own bs ml n0 (some .int) T h cells slots) {z : Int32} (hd : decode bs pc = .ok (.ireturn, 1)) (hC : cells ≤ C) (hN : slots ≤ N) (q : Q (some (.int z)) h) : Wk p.tables e below (Gl s n0 Q C N) (T.setTop (mkF m pc Ls (.int z :: st))) := by
  obtain ⟨⟨locs, Y, F⟩, hx, hc, hm, hZ, ho, hr, hl, rfl⟩ := X
  obtain ⟨fs, hq, hrun, hended, hW, hsame⟩ := Y.leave (v := some (.int z)) (fun h => by rw [hr] at h; cases h) hl
  exact ⟨_, _, retOut Y hx hr rfl (Or.inl ⟨rfl, Or.inl rfl, _, rfl⟩) (hb hc hd) hq, hrun, hended, _, _, rfl, ⟨q, F⟩, ⟨_, rfl⟩, hW, hsame.mono hC hN⟩
theorem Wk.zreturn (X : Hr p l e R s m args below meth c Z own bs ml n0 (some .boolean) T h cells slots) {z : Int32} (hd : decode bs pc = .ok (.ireturn, 1)) (hC : cells ≤ C) (hN : slots ≤ N) (hz : z = 0 ∨ z = 1) (q : Q (some (.int z)) h) : Wk p.tables e below (Gl s n0 Q C N) (T.setTop (mkF m pc Ls (.int z :: st))) := by
  obtain ⟨⟨locs, Y, F⟩, hx, hc, hm, hZ, ho, hr, hl, rfl⟩ := X
  obtain ⟨fs, hq, hrun, hended, hW, hsame⟩ := Y.leave (v := some (.int z)) (fun h => by rw [hr] at h; cases h) hl
  exact ⟨_, _, retOut Y hx hr (by rcases hz with rfl | rfl <;> rfl) (Or.inl ⟨rfl, Or.inr (Or.inl rfl), _, rfl⟩) (hb hc hd) hq, hrun, hended, _, _, rfl, ⟨q, F⟩, ⟨_, rfl⟩, hW, hsame.mono hC hN⟩
theorem Wk.lreturn (X : Hr p l e R s m args below meth c Z own bs ml n0 (some .long) T h cells slots) {z : Int64} (hd : decode bs pc = .ok (.lreturn, 1)) (hC : cells ≤ C) (hN : slots ≤ N) (q : Q (some (.long z)) h) : Wk p.tables e below (Gl s n0 Q C N) (T.setTop (mkF m pc Ls (.long z :: st))) := by
  obtain ⟨⟨locs, Y, F⟩, hx, hc, hm, hZ, ho, hr, hl, rfl⟩ := X
  obtain ⟨fs, hq, hrun, hended, hW, hsame⟩ := Y.leave (v := some (.long z)) (fun h => by rw [hr] at h; cases h) hl
  exact ⟨_, _, retOut Y hx hr rfl (Or.inr (Or.inl ⟨rfl, rfl, _, rfl⟩)) (hb hc hd) hq, hrun, hended, _, _, rfl, ⟨q, F⟩, ⟨_, rfl⟩, hW, hsame.mono hC hN⟩
theorem Wk.areturn {ty : FieldType} (X : Hr p l e R s m args below meth c Z own bs ml n0 (some ty) T h cells slots) {v : Value} (hd : decode bs pc = .ok (.areturn, 1)) (hC : cells ≤ C) (hN : slots ≤ N) (ht : ty.isReference = true) (hn : narrow ty v = v) (hv : v.isRef = true) (q : Q (some v) h) : Wk p.tables e below (Gl s n0 Q C N) (T.setTop (mkF m pc Ls (v :: st))) := by
  obtain ⟨⟨locs, Y, F⟩, hx, hc, hm, hZ, ho, hr, hl, rfl⟩ := X
  obtain ⟨fs, hq, hrun, hended, hW, hsame⟩ := Y.leave (v := some v) (fun h => by rw [hr] at h; cases h) hl
  exact ⟨_, _, retOut Y hx hr hn (Or.inr (Or.inr (Or.inr (Or.inr ⟨rfl, ht, hv⟩)))) (hb hc hd) hq, hrun, hended, _, _, rfl, ⟨q, F⟩, ⟨_, rfl⟩, hW, hsame.mono hC hN⟩
theorem Wk.vreturn (X : Hr p l e R s m args below meth c Z own bs ml n0 none T h cells slots) (hd : decode bs pc = .ok (.return_, 1)) (hC : cells ≤ C) (hN : slots ≤ N) (q : Q none h) : Wk p.tables e below (Gl s n0 Q C N) (T.setTop (mkF m pc Ls [])) := by
  obtain ⟨⟨locs, Y, F⟩, hx, hc, hm, hZ, ho, hr, hl, rfl⟩ := X
  obtain ⟨fs, hq, hrun, hended, hW, hsame⟩ := Y.leave (v := none) (fun _ => rfl) hl
  exact ⟨_, _, Y.returnOut hx hr (hb hc hd) hq, hrun, hended, _, _, rfl, ⟨q, F⟩, ⟨_, rfl⟩, hW, hsame.mono hC hN⟩
end Layer
theorem nn_new {n0 a r n : Nat} (q : n0 ≤ a) (h : a < n) (g : r = n) : n0 ≤ r := by omega
theorem ne_new {a r n : Nat} (h : a < n) (g : r = n) : a ≠ r := by omega
section Layer4
variable {p : Program} {l : Launch} {e : Env} {R : Room} {s : State} {m : MethodId} {args : Array Value} {below : List Frame} {meth : Method} {c : Code} {Z : State} {own : String} {bs : ByteArray} {ml n0 : Nat} {rt : Option FieldType} {T : State} {h h' : Heap} {cells slots : Nat} {G : State → Outcome → Prop} {pc : Nat} {Ls : Array Slot} {st : List Value} {a0 : Array Value} {a b : Addr}
/-- a cell that the VM knows -/
def Kn (h : Heap) (a : Addr) : Prop := ∃ cell : Cell, h[a]? = some cell ∧ cell.vm ≠ .unknown
theorem Kn.of {O n d : String} {v : Value} (F : Fld Z h a O n d v) : Kn h a := by
  obtain ⟨cell, _, _, _, _, h1, -, -, h4, -⟩ := F; exact ⟨cell, h1, h4⟩
theorem Kn.ext (N : Kn h a) (E : Ext h h') : Kn h' a := by
  obtain ⟨cell, h1, h2⟩ := N; exact ⟨cell, E.2 _ _ h1, h2⟩
theorem Kn.keep {ws : List Addr} (N : Kn h a) (K : Keep h h' ws) : Kn h' a := by
  obtain ⟨cell, h1, h2⟩ := N
  obtain ⟨c', q1, -, q3, -⟩ := K.2.2 a cell h1
  exact ⟨c', q1, by rw [q3]; exact h2⟩
theorem Kn.wr {sl : Nat} {v : Value} (N : Kn h a) (W : Wr h h' b sl v) : Kn h' a := N.keep (Keep.of_wr W)
theorem Wk.putF (X : Hr p l e R s m args below meth c Z own bs ml n0 rt T h cells slots) {i kk : Nat} {R0 O n d C : String} {ty : FieldType} {v : Value} (w : (Cond.fieldLink own i R0 n d).before a0 Z = true) (via : Via Z R0 O n d) (E : Exa Z h a C) (N : Kn h a) (L : (Cond.lays C O n d).before a0 Z = true ∨ ((Cond.laysFinal C O n d).before a0 Z = true ∧ own = O ∧ meth.name = "<init>")) (wi : (Cond.instantiable C kk).before a0 Z = true)
    (hty : parseFieldDescriptor d = some ty) (hn : narrow ty v = v) (hf : fits ty v = true) (hnew : n0 ≤ a) (hd : decode bs pc = .ok (.putfield i, 3)) (pc' : Nat) (hp : pc + 3 = pc')
    (k : ∀ T' h', Hr p l e R s m args below meth c Z own bs ml n0 rt T' h' cells slots → Wr h h' a (Jvm.RoadKit.slotOf Z O n d) v → Fld Z h' a O n d v → Wk p.tables e below G (T'.setTop (mkF m pc' Ls st))) : Wk p.tables e below G (T.setTop (mkF m pc Ls (v :: .ref a :: st))) := by
  obtain ⟨old, F⟩ := fld_laid (a0 := a0) E N wi (O := O) (n := n) (d := d) (L.imp id (·.1))
  exact Wk.putfield X w via F E L wi hty hn hf hnew hd pc' hp (fun T' h' X' W => k T' h' X' W (F.same W))
theorem Wk.castY (X : Hr p l e R s m args below meth c Z own bs ml n0 rt T h cells slots) {i : Nat} {K : String} (w : (Cond.classLink own i K).before a0 Z = true) (F : Ins Z h a K true) (hd : decode bs pc = .ok (.checkcast i, 3)) (pc' : Nat) (hp : pc + 3 = pc')
    (k : ∀ T', Hr p l e R s m args below meth c Z own bs ml n0 rt T' h cells slots → Wk p.tables e below G (T'.setTop (mkF m pc' Ls (.ref a :: st)))) : Wk p.tables e below G (T.setTop (mkF m pc Ls (.ref a :: st))) := by
  subst hp
  obtain ⟨⟨locs, Y, N⟩, hx, hc, hm, hZ, ho, hr, hl, eT⟩ := X
  obtain ⟨T', Y', e', q⟩ := Jvm.RoadKit.castY Y hx hZ ho w eT F (g := mkF m pc Ls (.ref a :: st)) rfl rfl (hb hc hd)
  exact Wk.go q (k T' ⟨⟨locs, Y', N⟩, hx, hc, hm, hZ, ho, hr, hl, e'⟩)
theorem Wk.instY (X : Hr p l e R s m args below meth c Z own bs ml n0 rt T h cells slots) {i : Nat} {K : String} (w : (Cond.classLink own i K).before a0 Z = true) (F : Ins Z h a K true) (hd : decode bs pc = .ok (.instanceof i, 3)) (pc' : Nat) (hp : pc + 3 = pc')
    (k : ∀ T', Hr p l e R s m args below meth c Z own bs ml n0 rt T' h cells slots → Wk p.tables e below G (T'.setTop (mkF m pc' Ls (.int 1 :: st)))) : Wk p.tables e below G (T.setTop (mkF m pc Ls (.ref a :: st))) := by
  subst hp
  obtain ⟨⟨locs, Y, N⟩, hx, hc, hm, hZ, ho, hr, hl, eT⟩ := X
  obtain ⟨T', Y', e', q⟩ := Jvm.RoadKit.instY Y hx hZ ho w eT F (g := mkF m pc Ls (.ref a :: st)) rfl rfl (hb hc hd)
  exact Wk.go q (k T' ⟨⟨locs, Y', N⟩, hx, hc, hm, hZ, ho, hr, hl, e'⟩)
/-- a private method's call, by its contract: that its class is no interface comes of another method's 'selects' word -/
theorem Wk.callP (X : Hr p l e R s m args below meth c Z own bs ml n0 rt T h cells slots) {i : Nat} {y z : MethodName} {C : String} {bytes : ByteArray} {maxL : Nat} {rt' : Option FieldType} {rm : Room} {as' : Array Value} {Q : Option Value → Heap → Prop} (w1 : (Cond.methodLink own i y).before a0 Z = true) (wp : (Cond.privateMethod y).before a0 Z = true) (w2 : (Cond.instanceMethod y).before a0 Z = true) (w3 : (Cond.initialized y.cls).before a0 Z = true) (w4 : (Cond.code y bytes maxL rt').before a0 Z = true) (ws : (Cond.selects C z z).before a0 Z = true) (hz : z.cls = y.cls) (E : Exa Z h a C) (hM : Con l y bytes maxL rt' rm [] Z as' h n0 Q)
    (hy : y.cls ≠ "java/lang/invoke/MethodHandle" ∧ y.cls ≠ "java/lang/invoke/VarHandle") {ps : List FieldType} {r : Option FieldType} (hds : parseMethodDescriptor y.desc = some ⟨ps, r⟩) (argsL rest : List Value) (hlen : argsL.length = ps.length) (hst : st = argsL.reverse ++ .ref a :: rest) (has : (.ref a :: argsL).toArray = as') (hls : Ls.size = ml) (W : Nat) (hW : (rest.map fun v => v.category).sum ≤ W) (hfr : rm.frames + 1 ≤ R.frames) (hlo : W + (maxL + 11) + rm.locals ≤ R.locals) (hce : cells + rm.cells ≤ R.cells) (hsl : slots + rm.slots ≤ R.slots) (cells' slots' : Nat) (hc' : cells + rm.cells = cells') (hs' : slots + rm.slots = slots')
    (hd : decode bs pc = .ok (.invokevirtual i, 3)) (pc' : Nat) (hp : pc + 3 = pc')
    (k : ∀ v T' h', Hr p l e R s m args below meth c Z own bs ml n0 rt T' h' cells' slots' → Q v h' → Wk p.tables e below G (T'.setTop (mkF m pc' Ls (v.toList ++ rest)))) : Wk p.tables e below G (T.setTop (mkF m pc Ls st)) := by
  subst hp hc' hs' hst has
  obtain ⟨⟨locs, Y, N⟩, hx, hc, hm, hZ, ho, hr, hl, eT⟩ := X
  obtain ⟨cell, hcell, hobj⟩ := E.cell
  obtain ⟨mk, methM, hnamed, hmethM, hstM, habM⟩ := Cond.instanceMethod_spec (mv (args := args) hZ w2)
  obtain ⟨methM', cM, hmethM', -, -, -, -, -, -, hsigM⟩ := Cond.code_spec hnamed (mv (args := args) hZ w4)
  cases hmethM.symm.trans hmethM'
  obtain ⟨c2, r2, m2, q1, q2, q3, q4, kP, hkP, hkPi⟩ := Cond.selects_spec (mv (args := args) hZ ws)
  have hcls : m2.cls = mk.cls := by
    have a1 := findClass_of_methodNamed q3
    have a2 := findClass_of_methodNamed hnamed
    rw [hz] at a1
    exact Option.some.inj (a1.symm.trans a2)
  rw [hcls] at hkP
  have hpriv := Cond.privateMethod_at (mvP hZ wp (args := args))
  have hselP : selectMethod e.platform s.vm cell.cls mk = .method mk := selectMethod_private hmethM (hpriv mk methM hnamed hmethM)
  obtain ⟨vm₁, X₁, hstep₁⟩ := Y.invokevirtual hx ho (mv (args := args) hZ w1) hnamed hmethM hstM hkP hkPi hy (a := a) (cell := cell) (by rw [eT]; exact hcell) hobj hselP hmethM habM hkP hkPi (g := mkF m pc Ls (argsL.reverse ++ .ref a :: rest)) rfl (argsL := argsL) (rest := rest) (lenOf hds hlen _ hsigM) rfl (hb hc hd)
  have hW₁ : s.WarmedH vm₁ := X₁.warmed
  have hK := backOf (len := 3) (W := W) (Q := fun v h L => Q v h ∧ Fr n0 L) (below := below) (s := s) (args := args) (p := p) (e := e) hM hZ w4 w3 hfr hlo
  obtain ⟨v, ⟨T1, L1, k1, n1⟩, Y1, ⟨Lc, hQ, l1, y1, z1⟩, hsteps⟩ := hK m meth c ⟨T.setVm vm₁, locs, cells, slots⟩ (mkF m pc Ls rest) (.invokevirtual i) mk (.ref a :: argsL).toArray X₁ rfl (by rw [hm]; exact hls) (hb hc hd) (by show 2 * 0 + (rest.map fun v => v.category).sum ≤ W; omega) (X₁.named hnamed) ⟨rfl, eT, hce, hsl⟩
  dsimp only [Pt.U, Pt.locs, Pt.cells, Pt.slots] at Y1 l1 y1 z1 hQ hsteps
  subst l1 y1 z1
  refine Wk.go (fun t z => ?_) (k v T1 T1.heap ⟨⟨_, Y1, Fr.app N hQ.2⟩, hx, hc, hm, hZ, ho, hr, hl, rfl⟩ hQ.1)
  exact hstep₁ _ fun acts => by rw [doInvoke_state]; exact hsteps.trans z
/-- the int on top, written otherwise -/
theorem Wk.topI {x : Int32} (z : Int32) (q : x = z) (k : Wk p.tables e below G (T.setTop (mkF m pc Ls (.int z :: st)))) : Wk p.tables e below G (T.setTop (mkF m pc Ls (.int x :: st))) := by
  subst q; exact k
/-- roads that meet with an int of any worth -/
theorem Wk.joinI {a : State} (b : Int32 → State) (k2 : ∀ q, Wk p.tables e below G (b q)) (k1 : (∀ q, Wk p.tables e below G (b q)) → Wk p.tables e below G a) : Wk p.tables e below G a := k1 k2
theorem Wk.dup2 (X : Hr p l e R s m args below meth c Z own bs ml n0 rt T h cells slots) {v w : Value} (hd : decode bs pc = .ok (.dup2, 1)) (pc' : Nat) (hp : pc + 1 = pc') (hv : v.category = 1) (hw : w.category = 1) (k : Wk p.tables e below G (T.setTop (mkF m pc' Ls (v :: w :: v :: w :: st)))) : Wk p.tables e below G (T.setTop (mkF m pc Ls (v :: w :: st))) := by
  subst hp
  exact Wk.pu X (fun hA hx hc t q => Jvm.Free.XT.dup2 hA hx rfl (hb hc hd) rfl hv hw q) k
theorem Wk.nreturn {ty : FieldType} (X : Hr p l e R s m args below meth c Z own bs ml n0 (some ty) T h cells slots) {Q : Option Value → Heap → Prop} {C N : Nat} {z : Int32} (ht : ty = .int ∨ ty = .boolean ∨ ty = .byte ∨ ty = .char ∨ ty = .short) (hd : decode bs pc = .ok (.ireturn, 1)) (hC : cells ≤ C) (hN : slots ≤ N) (hz : narrow ty (.int z) = .int z) (q : Q (some (.int z)) h) : Wk p.tables e below (Gl s n0 Q C N) (T.setTop (mkF m pc Ls (.int z :: st))) := by
  obtain ⟨⟨locs, Y, F⟩, hx, hc, hm, hZ, ho, hr, hl, rfl⟩ := X
  obtain ⟨fs, hq, hrun, hended, hW, hsame⟩ := Y.leave (v := some (.int z)) (fun h => by rw [hr] at h; cases h) hl
  exact ⟨_, _, retOut Y hx hr hz (Or.inl ⟨rfl, ht, _, rfl⟩) (hb hc hd) hq, hrun, hended, _, _, rfl, ⟨q, F⟩, ⟨_, rfl⟩, hW, hsame.mono hC hN⟩
end Layer4
/-! String constants: a walk that may intern, its base re-tabled -/
def GlW (s : State) (Q : Option Value → Prop) (C N : Nat) (t : State) (o : Outcome) : Prop := ∃ v L, o = .returned v ∧ (Q v ∧ Fr s.heap.size L) ∧ ReturnedEndW s o t L C N
abbrev ConW (l : Launch) (y : MethodName) (bytes : ByteArray) (maxL : Nat) (rt : Option FieldType) (rm : Room) (ws : List Jvm.Cond) (Z : State) (as' : Array Value) (Q : Option Value → Prop) : Prop :=
  MetFree l y (head1 (Jvm.Cond.code y bytes maxL rt :: ws) rm) (fun a U => a = as' ∧ U = Z) (fun _ _ _ _ _ => True) (fun _ U o U' => ∃ v L, o = .returned v ∧ (Q v ∧ Fr U.heap.size L) ∧ ReturnedEndW U o U' L rm.cells rm.slots)
theorem ConW.of {l : Launch} {y : MethodName} {bytes : ByteArray} {maxL : Nat} {rt : Option FieldType} {rm : Room} {ws : List Jvm.Cond} {Z : State} {as' : Array Value} {Q : Option Value → Prop} (hp : plainFor y = true)
    (body : ∀ p e m below meth c T, Hr p l e rm (Z.setVm Z.vm) m as' below meth c Z y.cls bytes maxL Z.heap.size rt T Z.heap 0 0 → meth.name = y.name → Wk p.tables e below (GlW Z Q rm.cells rm.slots) (T.setTop (entryFrame m as' maxL))) : ConW l y bytes maxL rt rm ws Z as' Q := by
  refine MetFree.of_bodySF hp hisR ?_
  intro p e s m args below meth c s₁ Bd hml0 hP hK
  obtain ⟨rfl, rfl⟩ := hP
  have e0 : s₁.heap = s.heap := by rw [Bd.state]; rfl
  exact body p e m below meth c s₁ ⟨⟨[], Stand.of_body Bd, Fr.nil _⟩, Bd.exec, Bd.bytes, hml0, State.Warmed39.refl s, findClass_of_methodNamed Bd.named, Bd.returns, Bd.notSynchronized, e0⟩ (name_of_methodNamed Bd.named Bd.method).1
section Layer7
variable {p : Program} {l : Launch} {e : Env} {R : Room} {s : State} {m : MethodId} {args : Array Value} {below : List Frame} {meth : Method} {c : Code} {Z : State} {own : String} {bs : ByteArray} {ml n0 : Nat} {rt : Option FieldType} {T : State} {h h' : Heap} {cells slots : Nat} {G : State → Outcome → Prop} {pc : Nat} {Ls : Array Slot} {st : List Value} {a0 : Array Value} {a b : Addr} {vm0 : Vm}
theorem Arl.of_arvB {k : ClassId} {us : List Value} {z : Int32} {d : Value} (V : Arv Z h a k .byte z us d) (hl : z.toNatClampNeg = us.length) (hb : us.length < 2 ^ 31) : Arl Z h a .byte us := by
  obtain ⟨cl, A, -, hs, -, H, -⟩ := V
  refine ⟨cl, A, ?_, hb⟩
  apply Array.ext
  · rw [hs, hl]; simp
  · intro i h1 h2
    have q := H i h1
    have h3 : i < us.length := by simpa using h2
    rw [Array.getElem?_eq_getElem h1, List.getD_eq_getElem?_getD, List.getElem?_eq_getElem h3] at q
    simpa using q
theorem Arl.one {ty ty' : FieldType} {us vs : List Value} (A : Arl Z h a ty us) (B : Arl Z h a ty' vs) : us = vs := by
  obtain ⟨cl, A, r1, -⟩ := A
  obtain ⟨cl', B, r2, -⟩ := B
  cases A.1.symm.trans B.1
  have q := r1.symm.trans r2
  simpa using congrArg Array.toList q
theorem Wk.ldcLit (X : Hr p l e R (Z.setVm vm0) m args below meth c Z own bs ml Z.heap.size rt T h cells slots) {i : Nat} {text : String} {Ts : List String} {vs : List Value} (w : (Cond.stringLink own i text).before a0 Z = true) (wS : ∀ a ∈ Bundle.stringAtoms, a.before a0 Z = true) {k0 : Nat} (hS : Z.Since vm0 k0) (hk : k0 ≤ h.size) (I : IB Z vm0 Ts) (hnot : text ∉ Ts) (hh : Jvm.Lit.constHeld Z own i) (hcw : Jvm.Lit.compactW.before a0 Z = true)
    (z : Int32) (ht : (∀ c ∈ text.toList, c.toNat < 256) ∧ text.toList.map (fun c => Value.int (Jvm.Lit.byteI c.toNat.toUInt16)) = vs) (hz : ¬ z < 0) (hl : z.toNatClampNeg = vs.length) (hb31 : vs.length < 2 ^ 31)
    (hd : decode bs pc = .ok (.ldc i, 2)) (pc' : Nat) (hp : pc + 2 = pc') (n : Nat) (hn : 4 * text.toList.length ≤ n) (hbig : n ≤ 536870912) (hce : cells + 2 ≤ R.cells) (hsl : slots + (n + 4) ≤ R.slots) (cells' slots' : Nat) (hc' : cells + 2 = cells') (hs' : slots + (n + 4) = slots')
    (k : ∀ a b T' h' k1 vm1, Hr p l e R (Z.setVm vm1) m args below meth c Z own bs ml Z.heap.size rt T' h' cells' slots' → Ext h h' → Z.Since vm1 k1 → k1 ≤ h'.size → IB Z vm1 (text :: Ts) → Exa Z h' a "java/lang/String" → Fld Z h' a "java/lang/String" "coder" "B" (.int 0) → Fld Z h' a "java/lang/String" "value" "[B" (.ref b) → Arl Z h' b .byte vs → Wk p.tables e below G (T'.setTop (mkF m pc' Ls (.ref a :: st)))) : Wk p.tables e below G (T.setTop (mkF m pc Ls st)) := by
  subst hp hc' hs'
  obtain ⟨⟨locs, Y, N⟩, hx, hc, hm, hZ, ho, hr, hlk, eT⟩ := X
  obtain ⟨a, T', h', k1, b, kc, Y', e', E, hS', hk', hZ', ho', Ea, Fc, Fv, V, -, -, I', -, -, q⟩ := Jvm.RoadKit.ldcSVd Y hx hZ ho w wS eT hS hk N (fun _ _ q => q) I hnot hh hcw ht hz hl (g := mkF m pc Ls st) rfl (hb hc hd) hn hbig hce hsl
  exact Wk.go q (k a b T' h' k1 T'.vm ⟨⟨_, Y', N⟩, hx, hc, hm, hZ', ho', hr, hlk, e'⟩ E hS' hk' I' Ea Fc Fv (Arl.of_arvB V hl hb31))
theorem Wk.zreturnW {Q : Option Value → Prop} {C N : Nat} (X : Hr p l e R (Z.setVm vm0) m args below meth c Z own bs ml Z.heap.size (some .boolean) T h cells slots) {k0 : Nat} (hS : Z.Since vm0 k0) (hk : k0 ≤ h.size) {z : Int32} (hd : decode bs pc = .ok (.ireturn, 1)) (hC : cells ≤ C) (hN : slots ≤ N) (hz : z = 0 ∨ z = 1) (q : Q (some (.int z))) : Wk p.tables e below (GlW Z Q C N) (T.setTop (mkF m pc Ls (.int z :: st))) := by
  obtain ⟨⟨locs, Y, F⟩, hx, hc, hm, hZ, ho, hr, hl, rfl⟩ := X
  obtain ⟨fs, hq, hrun, hended, e1, e2, e3, e4⟩ := Y.leaveW hS hk (v := some (.int z)) (fun h => by rw [hr] at h; cases h) hl
  exact ⟨_, _, retOut Y hx hr (by rcases hz with rfl | rfl <;> rfl) (Or.inl ⟨rfl, Or.inr (Or.inl rfl), _, rfl⟩) (hb hc hd) hq, hrun, hended, _, _, rfl, ⟨q, F⟩, e1, e2, e3, e4.mono hC hN⟩
end Layer7
theorem t0 {a0 : Array Value} {Z : State} (hw : ∀ d ∈ tables_1, d.before a0 Z = true) : Jvm.Cond.before (Jvm.Cond.constant "com/example/karekod/karekod/consent/ConsentStateTokensLivePinLaw" (7 : Nat) (2147483647 : Int32)) a0 Z = true := hw _ (List.mem_of_getElem? (i := 0) rfl)
theorem t1 {a0 : Array Value} {Z : State} (hw : ∀ d ∈ tables_1, d.before a0 Z = true) : Jvm.Cond.before (Jvm.Cond.fieldLink "com/example/karekod/karekod/consent/ConsentStateTokensLivePinLaw" (8 : Nat) "com/example/karekod/karekod/consent/ConsentState" "AWAITING_AUTHORISATION" "Lcom/example/karekod/karekod/consent/ConsentState;") a0 Z = true := hw _ (List.mem_of_getElem? (i := 1) rfl)
theorem t2 {a0 : Array Value} {Z : State} (hw : ∀ d ∈ tables_1, d.before a0 Z = true) : Jvm.Cond.before (Jvm.Cond.initialized "com/example/karekod/karekod/consent/ConsentState") a0 Z = true := hw _ (List.mem_of_getElem? (i := 2) rfl)
theorem t3 {a0 : Array Value} {Z : State} (hw : ∀ d ∈ tables_1, d.before a0 Z = true) : Jvm.Cond.before (Jvm.Cond.laysStatic "com/example/karekod/karekod/consent/ConsentState" "AWAITING_AUTHORISATION" "Lcom/example/karekod/karekod/consent/ConsentState;") a0 Z = true := hw _ (List.mem_of_getElem? (i := 3) rfl)
theorem t4 {a0 : Array Value} {Z : State} (hw : ∀ d ∈ tables_1, d.before a0 Z = true) : Jvm.Cond.before (Jvm.Cond.methodLink "com/example/karekod/karekod/consent/ConsentStateTokensLivePinLaw" (29 : Nat) ({ cls := "com/example/karekod/karekod/consent/ConsentState", name := "tokensLive", desc := "()Z" } : Jvm.MethodName)) a0 Z = true := hw _ (List.mem_of_getElem? (i := 4) rfl)
theorem t5 {a0 : Array Value} {Z : State} (hw : ∀ d ∈ tables_1, d.before a0 Z = true) : Jvm.Cond.before (Jvm.Cond.declares ({ cls := "com/example/karekod/karekod/consent/ConsentState", name := "tokensLive", desc := "()Z" } : Jvm.MethodName)) a0 Z = true := hw _ (List.mem_of_getElem? (i := 5) rfl)
theorem t6 {a0 : Array Value} {Z : State} (hw : ∀ d ∈ tables_1, d.before a0 Z = true) : Jvm.Cond.before (Jvm.Cond.instanceMethod ({ cls := "com/example/karekod/karekod/consent/ConsentState", name := "tokensLive", desc := "()Z" } : Jvm.MethodName)) a0 Z = true := hw _ (List.mem_of_getElem? (i := 6) rfl)
theorem t7 {a0 : Array Value} {Z : State} (hw : ∀ d ∈ tables_1, d.before a0 Z = true) : Jvm.Cond.before (Jvm.Cond.selects "com/example/karekod/karekod/consent/ConsentState" ({ cls := "com/example/karekod/karekod/consent/ConsentState", name := "tokensLive", desc := "()Z" } : Jvm.MethodName) ({ cls := "com/example/karekod/karekod/consent/ConsentState", name := "tokensLive", desc := "()Z" } : Jvm.MethodName)) a0 Z = true := hw _ (List.mem_of_getElem? (i := 7) rfl)
theorem t8 {a0 : Array Value} {Z : State} (hw : ∀ d ∈ tables_1, d.before a0 Z = true) : Jvm.Cond.before (Jvm.Cond.code ({ cls := "com/example/karekod/karekod/consent/ConsentState", name := "tokensLive", desc := "()Z" } : Jvm.MethodName) prog_11_method_6_code (1 : Nat) (Option.some Jvm.ClassFile.FieldType.boolean)) a0 Z = true := hw _ (List.mem_of_getElem? (i := 8) rfl)
theorem t9 {a0 : Array Value} {Z : State} (hw : ∀ d ∈ tables_1, d.before a0 Z = true) : Jvm.Cond.before (Jvm.Cond.fieldLink "com/example/karekod/karekod/consent/ConsentState" (10 : Nat) "com/example/karekod/karekod/consent/ConsentState" "USED" "Lcom/example/karekod/karekod/consent/ConsentState;") a0 Z = true := hw _ (List.mem_of_getElem? (i := 9) rfl)
theorem t10 {a0 : Array Value} {Z : State} (hw : ∀ d ∈ tables_1, d.before a0 Z = true) : Jvm.Cond.before (Jvm.Cond.laysStatic "com/example/karekod/karekod/consent/ConsentState" "USED" "Lcom/example/karekod/karekod/consent/ConsentState;") a0 Z = true := hw _ (List.mem_of_getElem? (i := 10) rfl)
theorem t11 {a0 : Array Value} {Z : State} (hw : ∀ d ∈ tables_1, d.before a0 Z = true) : Jvm.Cond.before (Jvm.Cond.fieldLink "com/example/karekod/karekod/consent/ConsentState" (13 : Nat) "com/example/karekod/karekod/consent/ConsentState" "ORDERED" "Lcom/example/karekod/karekod/consent/ConsentState;") a0 Z = true := hw _ (List.mem_of_getElem? (i := 11) rfl)
theorem t12 {a0 : Array Value} {Z : State} (hw : ∀ d ∈ tables_1, d.before a0 Z = true) : Jvm.Cond.before (Jvm.Cond.laysStatic "com/example/karekod/karekod/consent/ConsentState" "ORDERED" "Lcom/example/karekod/karekod/consent/ConsentState;") a0 Z = true := hw _ (List.mem_of_getElem? (i := 12) rfl)
theorem t13 {a0 : Array Value} {Z : State} (hw : ∀ d ∈ tables_1, d.before a0 Z = true) : Jvm.Cond.before (Jvm.Cond.methodLink "com/example/karekod/karekod/consent/ConsentStateTokensLivePinLaw" (33 : Nat) ({ cls := "com/example/karekod/karekod/consent/ConsentState", name := "code", desc := "()Ljava/lang/String;" } : Jvm.MethodName)) a0 Z = true := hw _ (List.mem_of_getElem? (i := 13) rfl)
theorem t14 {a0 : Array Value} {Z : State} (hw : ∀ d ∈ tables_1, d.before a0 Z = true) : Jvm.Cond.before (Jvm.Cond.declares ({ cls := "com/example/karekod/karekod/consent/ConsentState", name := "code", desc := "()Ljava/lang/String;" } : Jvm.MethodName)) a0 Z = true := hw _ (List.mem_of_getElem? (i := 14) rfl)
theorem t15 {a0 : Array Value} {Z : State} (hw : ∀ d ∈ tables_1, d.before a0 Z = true) : Jvm.Cond.before (Jvm.Cond.instanceMethod ({ cls := "com/example/karekod/karekod/consent/ConsentState", name := "code", desc := "()Ljava/lang/String;" } : Jvm.MethodName)) a0 Z = true := hw _ (List.mem_of_getElem? (i := 15) rfl)
theorem t16 {a0 : Array Value} {Z : State} (hw : ∀ d ∈ tables_1, d.before a0 Z = true) : Jvm.Cond.before (Jvm.Cond.selects "com/example/karekod/karekod/consent/ConsentState" ({ cls := "com/example/karekod/karekod/consent/ConsentState", name := "code", desc := "()Ljava/lang/String;" } : Jvm.MethodName) ({ cls := "com/example/karekod/karekod/consent/ConsentState", name := "code", desc := "()Ljava/lang/String;" } : Jvm.MethodName)) a0 Z = true := hw _ (List.mem_of_getElem? (i := 16) rfl)
theorem t17 {a0 : Array Value} {Z : State} (hw : ∀ d ∈ tables_1, d.before a0 Z = true) : Jvm.Cond.before (Jvm.Cond.code ({ cls := "com/example/karekod/karekod/consent/ConsentState", name := "code", desc := "()Ljava/lang/String;" } : Jvm.MethodName) prog_11_method_4_code (1 : Nat) (Option.some (Jvm.ClassFile.FieldType.object "java/lang/String"))) a0 Z = true := hw _ (List.mem_of_getElem? (i := 17) rfl)
theorem t18 {a0 : Array Value} {Z : State} (hw : ∀ d ∈ tables_1, d.before a0 Z = true) : Jvm.Cond.before (Jvm.Cond.fieldLink "com/example/karekod/karekod/consent/ConsentState" (41 : Nat) "com/example/karekod/karekod/consent/ConsentState" "code" "Ljava/lang/String;") a0 Z = true := hw _ (List.mem_of_getElem? (i := 18) rfl)
theorem t20 {a0 : Array Value} {Z : State} (hw : ∀ d ∈ tables_1, d.before a0 Z = true) : Jvm.Cond.before (Jvm.Cond.stringLink "com/example/karekod/karekod/consent/ConsentStateTokensLivePinLaw" (37 : Nat) "K") a0 Z = true := hw _ (List.mem_of_getElem? (i := 20) rfl)
theorem t21 {a0 : Array Value} {Z : State} (hw : ∀ d ∈ tables_1, d.before a0 Z = true) : Jvm.Cond.before (Jvm.Cond.initialized "java/lang/String") a0 Z = true := hw _ (List.mem_of_getElem? (i := 21) rfl)
theorem t28 {a0 : Array Value} {Z : State} (hw : ∀ d ∈ tables_1, d.before a0 Z = true) : Jvm.Cond.before (Jvm.Cond.methodLink "com/example/karekod/karekod/consent/ConsentStateTokensLivePinLaw" (39 : Nat) ({ cls := "java/lang/String", name := "equals", desc := "(Ljava/lang/Object;)Z" } : Jvm.MethodName)) a0 Z = true := hw _ (List.mem_of_getElem? (i := 28) rfl)
theorem t29 {a0 : Array Value} {Z : State} (hw : ∀ d ∈ tables_1, d.before a0 Z = true) : Jvm.Cond.before (Jvm.Cond.declares ({ cls := "java/lang/String", name := "equals", desc := "(Ljava/lang/Object;)Z" } : Jvm.MethodName)) a0 Z = true := hw _ (List.mem_of_getElem? (i := 29) rfl)
theorem t30 {a0 : Array Value} {Z : State} (hw : ∀ d ∈ tables_1, d.before a0 Z = true) : Jvm.Cond.before (Jvm.Cond.instanceMethod ({ cls := "java/lang/String", name := "equals", desc := "(Ljava/lang/Object;)Z" } : Jvm.MethodName)) a0 Z = true := hw _ (List.mem_of_getElem? (i := 30) rfl)
theorem t31 {a0 : Array Value} {Z : State} (hw : ∀ d ∈ tables_1, d.before a0 Z = true) : Jvm.Cond.before (Jvm.Cond.selects "java/lang/String" ({ cls := "java/lang/String", name := "equals", desc := "(Ljava/lang/Object;)Z" } : Jvm.MethodName) ({ cls := "java/lang/String", name := "equals", desc := "(Ljava/lang/Object;)Z" } : Jvm.MethodName)) a0 Z = true := hw _ (List.mem_of_getElem? (i := 31) rfl)
theorem t32 {a0 : Array Value} {Z : State} (hw : ∀ d ∈ tables_1, d.before a0 Z = true) : Jvm.Cond.before (Jvm.Cond.code ({ cls := "java/lang/String", name := "equals", desc := "(Ljava/lang/Object;)Z" } : Jvm.MethodName) jdk_42_method_66_code (3 : Nat) (Option.some Jvm.ClassFile.FieldType.boolean)) a0 Z = true := hw _ (List.mem_of_getElem? (i := 32) rfl)
theorem t33 {a0 : Array Value} {Z : State} (hw : ∀ d ∈ tables_1, d.before a0 Z = true) : Jvm.Cond.before (Jvm.Cond.classLink "java/lang/String" (10 : Nat) "java/lang/String") a0 Z = true := hw _ (List.mem_of_getElem? (i := 33) rfl)
theorem t34 {a0 : Array Value} {Z : State} (hw : ∀ d ∈ tables_1, d.before a0 Z = true) : Jvm.Cond.before (Jvm.Cond.castable "java/lang/String" "java/lang/String") a0 Z = true := hw _ (List.mem_of_getElem? (i := 34) rfl)
theorem t35 {a0 : Array Value} {Z : State} (hw : ∀ d ∈ tables_1, d.before a0 Z = true) : Jvm.Cond.before (Jvm.Cond.fieldLink "java/lang/String" (38 : Nat) "java/lang/String" "COMPACT_STRINGS" "Z") a0 Z = true := hw _ (List.mem_of_getElem? (i := 35) rfl)
theorem t36 {a0 : Array Value} {Z : State} (hw : ∀ d ∈ tables_1, d.before a0 Z = true) : Jvm.Cond.before (Jvm.Cond.fieldLink "java/lang/String" (15 : Nat) "java/lang/String" "coder" "B") a0 Z = true := hw _ (List.mem_of_getElem? (i := 36) rfl)
theorem t37 {a0 : Array Value} {Z : State} (hw : ∀ d ∈ tables_1, d.before a0 Z = true) : Jvm.Cond.before (Jvm.Cond.fieldLink "java/lang/String" (9 : Nat) "java/lang/String" "value" "[B") a0 Z = true := hw _ (List.mem_of_getElem? (i := 37) rfl)
theorem t38 {a0 : Array Value} {Z : State} (hw : ∀ d ∈ tables_1, d.before a0 Z = true) : Jvm.Cond.before (Jvm.Cond.methodLink "java/lang/String" (541 : Nat) ({ cls := "java/lang/StringLatin1", name := "equals", desc := "([B[B)Z" } : Jvm.MethodName)) a0 Z = true := hw _ (List.mem_of_getElem? (i := 38) rfl)
theorem t39 {a0 : Array Value} {Z : State} (hw : ∀ d ∈ tables_1, d.before a0 Z = true) : Jvm.Cond.before (Jvm.Cond.static ({ cls := "java/lang/StringLatin1", name := "equals", desc := "([B[B)Z" } : Jvm.MethodName)) a0 Z = true := hw _ (List.mem_of_getElem? (i := 39) rfl)
theorem t40 {a0 : Array Value} {Z : State} (hw : ∀ d ∈ tables_1, d.before a0 Z = true) : Jvm.Cond.before (Jvm.Cond.initialized "java/lang/StringLatin1") a0 Z = true := hw _ (List.mem_of_getElem? (i := 40) rfl)
theorem t41 {a0 : Array Value} {Z : State} (hw : ∀ d ∈ tables_1, d.before a0 Z = true) : Jvm.Cond.before (Jvm.Cond.code ({ cls := "java/lang/StringLatin1", name := "equals", desc := "([B[B)Z" } : Jvm.MethodName) jdk_43_method_13_code (3 : Nat) (Option.some Jvm.ClassFile.FieldType.boolean)) a0 Z = true := hw _ (List.mem_of_getElem? (i := 41) rfl)
theorem t42 {a0 : Array Value} {Z : State} (hw : ∀ d ∈ tables_1, d.before a0 Z = true) : Jvm.Cond.before (Jvm.Cond.stringLink "com/example/karekod/karekod/consent/ConsentStateTokensLivePinLaw" (45 : Nat) "E") a0 Z = true := hw _ (List.mem_of_getElem? (i := 42) rfl)
theorem t43 {a0 : Array Value} {Z : State} (hw : ∀ d ∈ tables_1, d.before a0 Z = true) : Jvm.Cond.before (Jvm.Cond.fieldLink "com/example/karekod/karekod/consent/ConsentStateTokensLivePinLaw" (20 : Nat) "com/example/karekod/karekod/consent/ConsentState" "ORDERED" "Lcom/example/karekod/karekod/consent/ConsentState;") a0 Z = true := hw _ (List.mem_of_getElem? (i := 43) rfl)
theorem t44 {a0 : Array Value} {Z : State} (hw : ∀ d ∈ tables_1, d.before a0 Z = true) : Jvm.Cond.before (Jvm.Cond.fieldLink "com/example/karekod/karekod/consent/ConsentStateTokensLivePinLaw" (17 : Nat) "com/example/karekod/karekod/consent/ConsentState" "USED" "Lcom/example/karekod/karekod/consent/ConsentState;") a0 Z = true := hw _ (List.mem_of_getElem? (i := 44) rfl)
theorem t45 {a0 : Array Value} {Z : State} (hw : ∀ d ∈ tables_1, d.before a0 Z = true) : Jvm.Cond.before (Jvm.Cond.fieldLink "com/example/karekod/karekod/consent/ConsentStateTokensLivePinLaw" (14 : Nat) "com/example/karekod/karekod/consent/ConsentState" "AUTHORISED" "Lcom/example/karekod/karekod/consent/ConsentState;") a0 Z = true := hw _ (List.mem_of_getElem? (i := 45) rfl)
theorem t46 {a0 : Array Value} {Z : State} (hw : ∀ d ∈ tables_1, d.before a0 Z = true) : Jvm.Cond.before (Jvm.Cond.laysStatic "com/example/karekod/karekod/consent/ConsentState" "AUTHORISED" "Lcom/example/karekod/karekod/consent/ConsentState;") a0 Z = true := hw _ (List.mem_of_getElem? (i := 46) rfl)
theorem t47 {a0 : Array Value} {Z : State} (hw : ∀ d ∈ tables_1, d.before a0 Z = true) : Jvm.Cond.before (Jvm.Cond.fieldLink "com/example/karekod/karekod/consent/ConsentStateTokensLivePinLaw" (26 : Nat) "com/example/karekod/karekod/consent/ConsentState" "CANCELLED" "Lcom/example/karekod/karekod/consent/ConsentState;") a0 Z = true := hw _ (List.mem_of_getElem? (i := 47) rfl)
theorem t48 {a0 : Array Value} {Z : State} (hw : ∀ d ∈ tables_1, d.before a0 Z = true) : Jvm.Cond.before (Jvm.Cond.laysStatic "com/example/karekod/karekod/consent/ConsentState" "CANCELLED" "Lcom/example/karekod/karekod/consent/ConsentState;") a0 Z = true := hw _ (List.mem_of_getElem? (i := 48) rfl)
theorem t49 {a0 : Array Value} {Z : State} (hw : ∀ d ∈ tables_1, d.before a0 Z = true) : Jvm.Cond.before (Jvm.Cond.fieldLink "com/example/karekod/karekod/consent/ConsentStateTokensLivePinLaw" (23 : Nat) "com/example/karekod/karekod/consent/ConsentState" "ENDED" "Lcom/example/karekod/karekod/consent/ConsentState;") a0 Z = true := hw _ (List.mem_of_getElem? (i := 49) rfl)
theorem t50 {a0 : Array Value} {Z : State} (hw : ∀ d ∈ tables_1, d.before a0 Z = true) : Jvm.Cond.before (Jvm.Cond.laysStatic "com/example/karekod/karekod/consent/ConsentState" "ENDED" "Lcom/example/karekod/karekod/consent/ConsentState;") a0 Z = true := hw _ (List.mem_of_getElem? (i := 50) rfl)
theorem pd0 : parseMethodDescriptor "([B[B)Z" = some ⟨[(.array .byte), (.array .byte)], some .boolean⟩ := by decide +kernel
theorem pd1 : parseMethodDescriptor "()Z" = some ⟨[], some .boolean⟩ := by decide +kernel
theorem pd2 : parseMethodDescriptor "()Ljava/lang/String;" = some ⟨[], some (.object "java/lang/String")⟩ := by decide +kernel
theorem pd3 : parseMethodDescriptor "(Ljava/lang/Object;)Z" = some ⟨[(.object "java/lang/Object")], some .boolean⟩ := by decide +kernel
theorem pn0 : plainName "com/example/karekod/karekod/consent/ConsentState" = true := by first | (simp [plainName, overriddenIn]; done) | decide +kernel
theorem pn1 : plainName "java/lang/StringLatin1" = true := by first | (simp [plainName, overriddenIn]; done) | decide +kernel
theorem pn2 : plainName "java/lang/String" = true := by first | (simp [plainName, overriddenIn]; done) | decide +kernel
theorem pn3 : plainName "com/example/karekod/karekod/consent/ConsentStateTokensLivePinLaw" = true := by first | (simp [plainName, overriddenIn]; done) | decide +kernel
/-! the six constants of the enumeration, as the case's words tell of them -/
theorem own_eqv {args : Array Value} {s : State} {t : Term} {k : Int32} (h : (Jvm.Cond.eq t (.int k)).value args s none s [] = some true) : t.eval args s none [] s = some (.int k) := by
  cases ht : t.eval args s none [] s with
  | none => simp [Jvm.Cond.value, ht] at h
  | some x => cases x <;> simp [Jvm.Cond.value, ht, Term.eval] at h ⊢; exact h
theorem own_len31 {args : Array Value} {s : State} {t : Term} {b : Addr} {cl : Cell} {v : Value} (ht : t.eval args s none [] s = some (.ref b)) (ha : s.arrayAt? b = some cl) (h : (Term.length t).eval args s none [] s = some v) : cl.slots.size < 2 ^ 31 := by
  rcases Nat.lt_or_ge cl.slots.size (2 ^ 31) with q | q
  · exact q
  · simp [Term.eval, ht, ha, Nat.not_lt.mpr q] at h
def Est (Z : State) (h : Heap) (nm : String) (k cd : Int32) (a : Addr) : Prop :=
  Sta Z h "com/example/karekod/karekod/consent/ConsentState" nm "Lcom/example/karekod/karekod/consent/ConsentState;" (.ref a) ∧ Exa Z h a "com/example/karekod/karekod/consent/ConsentState" ∧ Fld Z h a "java/lang/Enum" "ordinal" "I" (.int k) ∧ ∃ t b, Fld Z h a "com/example/karekod/karekod/consent/ConsentState" "code" "Ljava/lang/String;" (.ref t) ∧ Exa Z h t "java/lang/String" ∧ Fld Z h t "java/lang/String" "value" "[B" (.ref b) ∧ Fld Z h t "java/lang/String" "coder" "B" (.int 0) ∧ Arl Z h b .byte [.int cd]
theorem Est.ne {Z : State} {h : Heap} {nm nm' : String} {k k' cd cd' : Int32} {a a' : Addr} (E : Est Z h nm k cd a) (E' : Est Z h nm' k' cd' a') (q : k ≠ k') : a ≠ a' :=
  Fld.ne E.2.2.1 E'.2.2.1 (fun z => q (by cases z; rfl))
theorem Est.start {s : State} {args : Array Value} {nm : String} {k cd : Int32} (wi : (Jvm.Cond.initialized "com/example/karekod/karekod/consent/ConsentState").before args s = true) (wl : (Jvm.Cond.laysStatic "com/example/karekod/karekod/consent/ConsentState" nm "Lcom/example/karekod/karekod/consent/ConsentState;").before args s = true)
    (x1 : (Jvm.Cond.exactly (.static "com/example/karekod/karekod/consent/ConsentState" nm "Lcom/example/karekod/karekod/consent/ConsentState;") "com/example/karekod/karekod/consent/ConsentState").value args s none s [] = some true)
    (x2 : (Jvm.Cond.eq (.field (.static "com/example/karekod/karekod/consent/ConsentState" nm "Lcom/example/karekod/karekod/consent/ConsentState;") "java/lang/Enum" "ordinal" "I") (.int k)).value args s none s [] = some true)
    (x3 : (Jvm.Cond.exactly (.field (.static "com/example/karekod/karekod/consent/ConsentState" nm "Lcom/example/karekod/karekod/consent/ConsentState;") "com/example/karekod/karekod/consent/ConsentState" "code" "Ljava/lang/String;") "java/lang/String").value args s none s [] = some true)
    (x4 : (Jvm.Cond.eq (.field (.field (.static "com/example/karekod/karekod/consent/ConsentState" nm "Lcom/example/karekod/karekod/consent/ConsentState;") "com/example/karekod/karekod/consent/ConsentState" "code" "Ljava/lang/String;") "java/lang/String" "coder" "B") (.int 0)).value args s none s [] = some true)
    (x5 : (Jvm.Cond.arrayOf (.field (.field (.static "com/example/karekod/karekod/consent/ConsentState" nm "Lcom/example/karekod/karekod/consent/ConsentState;") "com/example/karekod/karekod/consent/ConsentState" "code" "Ljava/lang/String;") "java/lang/String" "value" "[B") .byte).value args s none s [] = some true)
    (x6 : (Jvm.Cond.eq (.length (.field (.field (.static "com/example/karekod/karekod/consent/ConsentState" nm "Lcom/example/karekod/karekod/consent/ConsentState;") "com/example/karekod/karekod/consent/ConsentState" "code" "Ljava/lang/String;") "java/lang/String" "value" "[B")) (.int 1)).value args s none s [] = some true)
    (x7 : (Jvm.Cond.eq (.elem (.field (.field (.static "com/example/karekod/karekod/consent/ConsentState" nm "Lcom/example/karekod/karekod/consent/ConsentState;") "com/example/karekod/karekod/consent/ConsentState" "code" "Ljava/lang/String;") "java/lang/String" "value" "[B") (.int 0)) (.int cd)).value args s none s [] = some true) : ∃ a, Est s s.heap nm k cd a := by
  obtain ⟨a, e1⟩ := exa_v x1
  obtain ⟨t, e3⟩ := exa_v x3
  obtain ⟨b, e5⟩ := arr_v x5
  have f2 := own_eqv x2
  rw [fld_at e1] at f2
  have f3 := e3
  rw [fld_at e1] at f3
  have f4 := own_eqv x4
  rw [fld_at e3] at f4
  have f5 := e5
  rw [fld_at e3] at f5
  obtain ⟨cl, A⟩ := Arr.start e5 x5
  have e6 := own_eqv x6
  have hat := A.fin (Vm.Alike.refl _)
  have hl : cl.slots.size < 2 ^ 31 := own_len31 e5 hat e6
  rw [len_f e5 hat hl] at e6
  have hs : cl.slots.size = 1 := by
    have q := congrArg Int32.toInt (Value.int.inj (Option.some.inj e6))
    rw [len_toInt hl] at q
    simp only [Int32.reduceToInt] at q
    omega
  obtain ⟨c2, w1, w2, w3⟩ := elem_at (own_eqv x7) e5 (rfl : (Term.int 0).eval args s none [] s = some (.int 0))
  cases A.1.symm.trans w1
  refine ⟨a, Sta.start e1 (Or.inr ⟨wi, wl⟩), Exa.start e1 x1, Fld.start f2, t, b, Fld.start f3, Exa.start e3 x3, Fld.start f5, Fld.start f4, cl, A, ?_, by simp⟩
  apply Array.ext'
  have w4 : cl.slots[0]? = some (.int cd) := w3
  obtain ⟨L⟩ : ∃ L : List Value, True := ⟨cl.slots.toList, trivial⟩
  rcases hq : cl.slots with ⟨L⟩
  rw [hq] at hs w4
  match L, hs with
  | [v], _ => simpa using w4
theorem own_n6 (x : Int32) : ((x &&& (2147483647 : Int32)) % (6 : Int32)) = 0 ∨ ((x &&& (2147483647 : Int32)) % (6 : Int32)) = 1 ∨ ((x &&& (2147483647 : Int32)) % (6 : Int32)) = 2 ∨ ((x &&& (2147483647 : Int32)) % (6 : Int32)) = 3 ∨ ((x &&& (2147483647 : Int32)) % (6 : Int32)) = 4 ∨ ((x &&& (2147483647 : Int32)) % (6 : Int32)) = 5 := by
  have e := c_mask x 2147483647 31 (by decide) (by decide)
  have f := (c_irem (x &&& (2147483647 : Int32)) 6 6 rfl).1 (by omega)
  simp only [← Int32.toInt_inj, f, Int32.reduceToInt]
  omega
theorem own_neq {args : Array Value} {s : State} {t : Term} {k z : Int32} (e : t.eval args s none [] s = some (.int k)) (h : (Jvm.Cond.eq t (.int z)).value args s none s [] = some (!true)) : k ≠ z := by
  intro q
  subst q
  rw [eq_i e (Term.int_eval k) rfl] at h
  cases h
set_option maxRecDepth 100000 in
theorem own_atoms : ∀ d ∈ Bundle.stringAtoms, d ∈ tables_1 := by decide +kernel
theorem d1_0 : decode prog_11_method_6_code 0 = .ok (.aload_n 0, 1) := by decide +kernel
theorem d1_1 : decode prog_11_method_6_code 1 = .ok (.getstatic 10, 3) := by decide +kernel
theorem d1_4 : decode prog_11_method_6_code 4 = .ok (.if_acmp .eq 10, 3) := by decide +kernel
theorem d1_7 : decode prog_11_method_6_code 7 = .ok (.aload_n 0, 1) := by decide +kernel
theorem d1_8 : decode prog_11_method_6_code 8 = .ok (.getstatic 13, 3) := by decide +kernel
theorem d1_11 : decode prog_11_method_6_code 11 = .ok (.if_acmp .ne 7, 3) := by decide +kernel
theorem d1_14 : decode prog_11_method_6_code 14 = .ok (.iconst 1, 1) := by decide +kernel
theorem d1_15 : decode prog_11_method_6_code 15 = .ok (.goto 4, 3) := by decide +kernel
theorem d1_18 : decode prog_11_method_6_code 18 = .ok (.iconst 0, 1) := by decide +kernel
theorem d1_19 : decode prog_11_method_6_code 19 = .ok (.ireturn, 1) := by decide +kernel
set_option maxRecDepth 65536 in
set_option maxHeartbeats 40000000 in
theorem con_tok (l : Launch) (Z : State) (a0 : Array Value) (hw : ∀ d ∈ tables_1, d.before a0 Z = true) (ws : List Jvm.Cond) (h0 : Heap) (n0 : Nat) (a aU aO : Addr) (SU : Sta Z h0 "com/example/karekod/karekod/consent/ConsentState" "USED" "Lcom/example/karekod/karekod/consent/ConsentState;" (.ref aU)) (SO : Sta Z h0 "com/example/karekod/karekod/consent/ConsentState" "ORDERED" "Lcom/example/karekod/karekod/consent/ConsentState;" (.ref aO)) :
    Con l (⟨"com/example/karekod/karekod/consent/ConsentState", "tokensLive", "()Z"⟩ : MethodName) prog_11_method_6_code 1 (some .boolean) ({ frames := 0, cells := 0, slots := 0, locals := 0 } : Room) ws Z #[(.ref a)] h0 n0 (fun v h => v = some (.int (if a = aU ∨ a = aO then 1 else 0)) ∧ h0 = h) := by
  refine Con.of (plainFor_of_name pn0) ?_
  intro p e s m below meth c T X nm
  rw [show entryFrame m #[(.ref a)] 1 = mkF m 0 #[.val (.ref a)] [] from by (first | (simp [entryFrame, mkF, argsToLocals, Value.category]; done) | rfl)]
  refine Wk.aloadN X d1_0 1 rfl rfl rfl ?_
  refine Wk.getstatic X (t9 hw) Via.refl SU d1_1 4 rfl ?_
  intro T X
  by_cases q1 : a = aU
  · refine Wk.acmpT X d1_4 14 (by decide) (by simp [if_acmp.holds, q1]) ?_
    refine Wk.iconst X d1_14 15 rfl (1 : Int32) rfl ?_
    refine Wk.goto X d1_15 19 (by decide) ?_
    exact Wk.zreturn X d1_19 (by decide) (by decide) (Or.inr rfl) ⟨by simp [q1], rfl⟩
  · refine Wk.acmpF X d1_4 7 rfl (by simp [if_acmp.holds, q1]) ?_
    refine Wk.aloadN X d1_7 8 rfl rfl rfl ?_
    refine Wk.getstatic X (t11 hw) Via.refl SO d1_8 11 rfl ?_
    intro T X
    by_cases q2 : a = aO
    · refine Wk.acmpF X d1_11 14 rfl (by simp [if_acmp.holds, q2]) ?_
      refine Wk.iconst X d1_14 15 rfl (1 : Int32) rfl ?_
      refine Wk.goto X d1_15 19 (by decide) ?_
      exact Wk.zreturn X d1_19 (by decide) (by decide) (Or.inr rfl) ⟨by simp [q2], rfl⟩
    · refine Wk.acmpT X d1_11 18 (by decide) (by simp [if_acmp.holds, q2]) ?_
      refine Wk.iconst X d1_18 19 rfl (0 : Int32) rfl ?_
      exact Wk.zreturn X d1_19 (by decide) (by decide) (Or.inl rfl) ⟨by simp [q1, q2], rfl⟩
theorem d4_0 : decode prog_11_method_4_code 0 = .ok (.aload_n 0, 1) := by decide +kernel
theorem d4_1 : decode prog_11_method_4_code 1 = .ok (.getfield 41, 3) := by decide +kernel
theorem d4_4 : decode prog_11_method_4_code 4 = .ok (.areturn, 1) := by decide +kernel
set_option maxRecDepth 65536 in
set_option maxHeartbeats 40000000 in
theorem con_code (l : Launch) (Z : State) (a0 : Array Value) (hw : ∀ d ∈ tables_1, d.before a0 Z = true) (ws : List Jvm.Cond) (h0 : Heap) (n0 : Nat) (a t : Addr) (F : Fld Z h0 a "com/example/karekod/karekod/consent/ConsentState" "code" "Ljava/lang/String;" (.ref t)) :
    Con l (⟨"com/example/karekod/karekod/consent/ConsentState", "code", "()Ljava/lang/String;"⟩ : MethodName) prog_11_method_4_code 1 (some (.object "java/lang/String")) ({ frames := 0, cells := 0, slots := 0, locals := 0 } : Room) ws Z #[(.ref a)] h0 n0 (fun v h => v = some (.ref t) ∧ h0 = h) := by
  refine Con.of (plainFor_of_name pn0) ?_
  intro p e s m below meth c T X nm
  rw [show entryFrame m #[(.ref a)] 1 = mkF m 0 #[.val (.ref a)] [] from by (first | (simp [entryFrame, mkF, argsToLocals, Value.category]; done) | rfl)]
  refine Wk.aloadN X d4_0 1 rfl rfl rfl ?_
  refine Wk.getfield X (t18 hw) Via.refl F d4_1 4 rfl ?_
  intro T X
  exact Wk.areturn X d4_4 (by decide) (by decide) rfl rfl rfl ⟨rfl, rfl⟩
theorem d10_0 : decode jdk_43_method_13_code 0 = .ok (.aload_n 0, 1) := by decide +kernel
theorem d10_1 : decode jdk_43_method_13_code 1 = .ok (.arraylength, 1) := by decide +kernel
theorem d10_2 : decode jdk_43_method_13_code 2 = .ok (.aload_n 1, 1) := by decide +kernel
theorem d10_3 : decode jdk_43_method_13_code 3 = .ok (.arraylength, 1) := by decide +kernel
theorem d10_4 : decode jdk_43_method_13_code 4 = .ok (.if_icmp .ne 30, 3) := by decide +kernel
theorem d10_7 : decode jdk_43_method_13_code 7 = .ok (.iconst 0, 1) := by decide +kernel
theorem d10_8 : decode jdk_43_method_13_code 8 = .ok (.istore_n 2, 1) := by decide +kernel
theorem d10_9 : decode jdk_43_method_13_code 9 = .ok (.iload_n 2, 1) := by decide +kernel
theorem d10_10 : decode jdk_43_method_13_code 10 = .ok (.aload_n 0, 1) := by decide +kernel
theorem d10_11 : decode jdk_43_method_13_code 11 = .ok (.arraylength, 1) := by decide +kernel
theorem d10_12 : decode jdk_43_method_13_code 12 = .ok (.if_icmp .ge 20, 3) := by decide +kernel
theorem d10_15 : decode jdk_43_method_13_code 15 = .ok (.aload_n 0, 1) := by decide +kernel
theorem d10_16 : decode jdk_43_method_13_code 16 = .ok (.iload_n 2, 1) := by decide +kernel
theorem d10_17 : decode jdk_43_method_13_code 17 = .ok (.baload, 1) := by decide +kernel
theorem d10_18 : decode jdk_43_method_13_code 18 = .ok (.aload_n 1, 1) := by decide +kernel
theorem d10_19 : decode jdk_43_method_13_code 19 = .ok (.iload_n 2, 1) := by decide +kernel
theorem d10_20 : decode jdk_43_method_13_code 20 = .ok (.baload, 1) := by decide +kernel
theorem d10_21 : decode jdk_43_method_13_code 21 = .ok (.if_icmp .eq 5, 3) := by decide +kernel
theorem d10_24 : decode jdk_43_method_13_code 24 = .ok (.iconst 0, 1) := by decide +kernel
theorem d10_25 : decode jdk_43_method_13_code 25 = .ok (.ireturn, 1) := by decide +kernel
theorem d10_26 : decode jdk_43_method_13_code 26 = .ok (.iinc 2 1, 3) := by decide +kernel
theorem d10_29 : decode jdk_43_method_13_code 29 = .ok (.goto (-20), 3) := by decide +kernel
theorem d10_32 : decode jdk_43_method_13_code 32 = .ok (.iconst 1, 1) := by decide +kernel
theorem d10_33 : decode jdk_43_method_13_code 33 = .ok (.ireturn, 1) := by decide +kernel
set_option maxRecDepth 65536 in
set_option maxHeartbeats 40000000 in
theorem con_leq (l : Launch) (Z : State) (a0 : Array Value) (hw : ∀ d ∈ tables_1, d.before a0 Z = true) (ws : List Jvm.Cond) (h0 : Heap) (n0 : Nat) (b b' : Addr) (cd cd' : Int32) (A : Arl Z h0 b .byte [.int cd]) (B : Arl Z h0 b' .byte [.int cd']) :
    Con l (⟨"java/lang/StringLatin1", "equals", "([B[B)Z"⟩ : MethodName) jdk_43_method_13_code 3 (some .boolean) ({ frames := 0, cells := 0, slots := 0, locals := 0 } : Room) ws Z #[(.ref b), (.ref b')] h0 n0 (fun v h => v = some (.int (if cd = cd' then 1 else 0)) ∧ h0 = h) := by
  refine Con.of (plainFor_of_name pn1) ?_
  intro p e s m below meth c T X nm
  rw [show entryFrame m #[(.ref b), (.ref b')] 3 = mkF m 0 #[.val (.ref b), .val (.ref b'), .unset] [] from by (first | (simp [entryFrame, mkF, argsToLocals, Value.category]; done) | rfl)]
  refine Wk.aloadN X d10_0 1 rfl rfl rfl ?_
  refine Wk.arraylength X A d10_1 2 rfl (1 : Int32) rfl ?_
  refine Wk.aloadN X d10_2 3 rfl rfl rfl ?_
  refine Wk.arraylength X B d10_3 4 rfl (1 : Int32) rfl ?_
  refine Wk.icmpF X d10_4 7 rfl (show (1 : Int32) = (1 : Int32) from (by decide)) ?_
  refine Wk.iconst X d10_7 8 rfl (0 : Int32) rfl ?_
  refine Wk.istoreN X d10_8 9 rfl #[.val (.ref b), .val (.ref b'), .val (.int (0 : Int32))] rfl ?_
  refine Wk.iloadN X d10_9 10 rfl rfl ?_
  refine Wk.aloadN X d10_10 11 rfl rfl rfl ?_
  refine Wk.arraylength X A d10_11 12 rfl (1 : Int32) rfl ?_
  refine Wk.icmpF X d10_12 15 rfl (show (0 : Int32) < (1 : Int32) from (by decide)) ?_
  refine Wk.aloadN X d10_15 16 rfl rfl rfl ?_
  refine Wk.iloadN X d10_16 17 rfl rfl ?_
  refine Wk.baload X A 0 rfl rfl d10_17 18 rfl ?_
  refine Wk.aloadN X d10_18 19 rfl rfl rfl ?_
  refine Wk.iloadN X d10_19 20 rfl rfl ?_
  refine Wk.baload X B 0 rfl rfl d10_20 21 rfl ?_
  refine Wk.icmp X d10_21 26 24 (by decide) rfl ?_ ?_
  · intro hc; change cd = cd' at hc
    refine Wk.iinc X d10_26 29 rfl #[.val (.ref b), .val (.ref b'), .val (.int (1 : Int32))] rfl rfl ?_
    refine Wk.goto X d10_29 9 (by decide) ?_
    refine Wk.iloadN X d10_9 10 rfl rfl ?_
    refine Wk.aloadN X d10_10 11 rfl rfl rfl ?_
    refine Wk.arraylength X A d10_11 12 rfl (1 : Int32) rfl ?_
    refine Wk.icmpT X d10_12 32 (by decide) (show ¬ (1 : Int32) < (1 : Int32) from (by decide)) ?_
    refine Wk.iconst X d10_32 33 rfl (1 : Int32) rfl ?_
    exact Wk.zreturn X d10_33 (by decide) (by decide) (Or.inr rfl) ⟨by simp [hc], rfl⟩
  · intro hc; change ¬ cd = cd' at hc
    refine Wk.iconst X d10_24 25 rfl (0 : Int32) rfl ?_
    exact Wk.zreturn X d10_25 (by decide) (by decide) (Or.inl rfl) ⟨by simp [hc], rfl⟩
theorem d7_0 : decode jdk_42_method_66_code 0 = .ok (.aload_n 0, 1) := by decide +kernel
theorem d7_1 : decode jdk_42_method_66_code 1 = .ok (.aload_n 1, 1) := by decide +kernel
theorem d7_2 : decode jdk_42_method_66_code 2 = .ok (.if_acmp .ne 5, 3) := by decide +kernel
theorem d7_5 : decode jdk_42_method_66_code 5 = .ok (.iconst 1, 1) := by decide +kernel
theorem d7_6 : decode jdk_42_method_66_code 6 = .ok (.ireturn, 1) := by decide +kernel
theorem d7_7 : decode jdk_42_method_66_code 7 = .ok (.aload_n 1, 1) := by decide +kernel
theorem d7_8 : decode jdk_42_method_66_code 8 = .ok (.instanceof 10, 3) := by decide +kernel
theorem d7_11 : decode jdk_42_method_66_code 11 = .ok (.ifCond .eq 43, 3) := by decide +kernel
theorem d7_14 : decode jdk_42_method_66_code 14 = .ok (.aload_n 1, 1) := by decide +kernel
theorem d7_15 : decode jdk_42_method_66_code 15 = .ok (.checkcast 10, 3) := by decide +kernel
theorem d7_18 : decode jdk_42_method_66_code 18 = .ok (.astore_n 2, 1) := by decide +kernel
theorem d7_19 : decode jdk_42_method_66_code 19 = .ok (.getstatic 38, 3) := by decide +kernel
theorem d7_22 : decode jdk_42_method_66_code 22 = .ok (.ifCond .eq 14, 3) := by decide +kernel
theorem d7_25 : decode jdk_42_method_66_code 25 = .ok (.aload_n 0, 1) := by decide +kernel
theorem d7_26 : decode jdk_42_method_66_code 26 = .ok (.getfield 15, 3) := by decide +kernel
theorem d7_29 : decode jdk_42_method_66_code 29 = .ok (.aload_n 2, 1) := by decide +kernel
theorem d7_30 : decode jdk_42_method_66_code 30 = .ok (.getfield 15, 3) := by decide +kernel
theorem d7_33 : decode jdk_42_method_66_code 33 = .ok (.if_icmp .ne 21, 3) := by decide +kernel
theorem d7_36 : decode jdk_42_method_66_code 36 = .ok (.aload_n 0, 1) := by decide +kernel
theorem d7_37 : decode jdk_42_method_66_code 37 = .ok (.getfield 9, 3) := by decide +kernel
theorem d7_40 : decode jdk_42_method_66_code 40 = .ok (.aload_n 2, 1) := by decide +kernel
theorem d7_41 : decode jdk_42_method_66_code 41 = .ok (.getfield 9, 3) := by decide +kernel
theorem d7_44 : decode jdk_42_method_66_code 44 = .ok (.invokestatic 541, 3) := by decide +kernel
theorem d7_47 : decode jdk_42_method_66_code 47 = .ok (.ifCond .eq 7, 3) := by decide +kernel
theorem d7_50 : decode jdk_42_method_66_code 50 = .ok (.iconst 1, 1) := by decide +kernel
theorem d7_51 : decode jdk_42_method_66_code 51 = .ok (.goto 4, 3) := by decide +kernel
theorem d7_54 : decode jdk_42_method_66_code 54 = .ok (.iconst 0, 1) := by decide +kernel
theorem d7_55 : decode jdk_42_method_66_code 55 = .ok (.ireturn, 1) := by decide +kernel
set_option maxRecDepth 65536 in
set_option maxHeartbeats 40000000 in
theorem con_eq (l : Launch) (Z : State) (a0 : Array Value) (hw : ∀ d ∈ tables_1, d.before a0 Z = true) (ws : List Jvm.Cond) (h0 : Heap) (n0 : Nat) (t u b b' : Addr) (cs cd cd' : Int32) (ncs : cs ≠ 0) (SC : Sta Z h0 "java/lang/String" "COMPACT_STRINGS" "Z" (.int cs)) (E : Exa Z h0 u "java/lang/String") (FV : Fld Z h0 t "java/lang/String" "value" "[B" (.ref b)) (FC : Fld Z h0 t "java/lang/String" "coder" "B" (.int 0)) (FV' : Fld Z h0 u "java/lang/String" "value" "[B" (.ref b')) (FC' : Fld Z h0 u "java/lang/String" "coder" "B" (.int 0)) (A : Arl Z h0 b .byte [.int cd]) (B : Arl Z h0 b' .byte [.int cd']) :
    Con l (⟨"java/lang/String", "equals", "(Ljava/lang/Object;)Z"⟩ : MethodName) jdk_42_method_66_code 3 (some .boolean) ({ frames := 1, cells := 0, slots := 0, locals := 14 } : Room) ws Z #[(.ref t), (.ref u)] h0 n0 (fun v h => v = some (.int (if cd = cd' then 1 else 0)) ∧ h0 = h) := by
  refine Con.of (plainFor_of_name pn2) ?_
  intro p e s m below meth c T X nm
  rw [show entryFrame m #[(.ref t), (.ref u)] 3 = mkF m 0 #[.val (.ref t), .val (.ref u), .unset] [] from by (first | (simp [entryFrame, mkF, argsToLocals, Value.category]; done) | rfl)]
  refine Wk.aloadN X d7_0 1 rfl rfl rfl ?_
  refine Wk.aloadN X d7_1 2 rfl rfl rfl ?_
  by_cases q0 : t = u
  · have hcd : cd = cd' := by
      have e1 : b = b' := Classical.byContradiction fun q => Fld.ne FV FV' (fun z => q (by cases z; rfl)) q0
      subst e1
      have e2 := A.one B
      simpa using e2
    refine Wk.acmpF X d7_2 5 rfl (by simp [if_acmp.holds, q0]) ?_
    refine Wk.iconst X d7_5 6 rfl (1 : Int32) rfl ?_
    exact Wk.zreturn X d7_6 (by decide) (by decide) (Or.inr rfl) ⟨by simp [hcd], rfl⟩
  · refine Wk.acmpT X d7_2 7 (by decide) (by simp [if_acmp.holds, q0]) ?_
    refine Wk.aloadN X d7_7 8 rfl rfl rfl ?_
    have J := Ins.of_exa E (t34 hw)
    refine Wk.instY X (t33 hw) J d7_8 11 rfl ?_
    intro T X
    refine Wk.ifcF X d7_11 14 rfl (show ¬ (1 : Int32) = (0 : Int32) from (by decide)) ?_
    refine Wk.aloadN X d7_14 15 rfl rfl rfl ?_
    refine Wk.castY X (t33 hw) J d7_15 18 rfl ?_
    intro T X
    refine Wk.astoreN X d7_18 19 rfl #[.val (.ref t), .val (.ref u), .val (.ref u)] rfl rfl ?_
    refine Wk.getstatic X (t35 hw) Via.refl SC d7_19 22 rfl ?_
    intro T X
    refine Wk.ifcF X d7_22 25 rfl (show ¬ cs = (0 : Int32) from ncs) ?_
    refine Wk.aloadN X d7_25 26 rfl rfl rfl ?_
    refine Wk.getfield X (t36 hw) Via.refl FC d7_26 29 rfl ?_
    intro T X
    refine Wk.aloadN X d7_29 30 rfl rfl rfl ?_
    refine Wk.getfield X (t36 hw) Via.refl FC' d7_30 33 rfl ?_
    intro T X
    refine Wk.icmpF X d7_33 36 rfl (show (0 : Int32) = (0 : Int32) from (by decide)) ?_
    refine Wk.aloadN X d7_36 37 rfl rfl rfl ?_
    refine Wk.getfield X (t37 hw) Via.refl FV d7_37 40 rfl ?_
    intro T X
    refine Wk.aloadN X d7_40 41 rfl rfl rfl ?_
    refine Wk.getfield X (t37 hw) Via.refl FV' d7_41 44 rfl ?_
    intro T X
    refine Wk.callS X (t38 hw) (t39 hw) (t40 hw) (t41 hw) (con_leq l Z a0 hw [] h0 n0 b b' cd cd' A B) (by decide) pd0 [(.ref b), (.ref b')] [] rfl rfl rfl rfl 0 (Nat.le_of_eq rfl) (by decide) (by decide) (by decide) (by decide) 0 0 rfl rfl d7_44 47 rfl ?_
    rintro _ T _ X ⟨rfl, rfl⟩
    show Wk p.tables e below _ (T.setTop (mkF m 47 #[.val (.ref t), .val (.ref u), .val (.ref u)] [(.int (if cd = cd' then 1 else 0))]))
    by_cases q1 : cd = cd'
    · refine Wk.topI (1 : Int32) (by simp [q1]) ?_
      refine Wk.ifcF X d7_47 50 rfl (show ¬ (1 : Int32) = (0 : Int32) from (by decide)) ?_
      refine Wk.iconst X d7_50 51 rfl (1 : Int32) rfl ?_
      refine Wk.goto X d7_51 55 (by decide) ?_
      exact Wk.zreturn X d7_55 (by decide) (by decide) (Or.inr rfl) ⟨by simp [q1], rfl⟩
    · refine Wk.topI (0 : Int32) (by simp [q1]) ?_
      refine Wk.ifcT X d7_47 54 (by decide) (show (0 : Int32) = (0 : Int32) from (by decide)) ?_
      refine Wk.iconst X d7_54 55 rfl (0 : Int32) rfl ?_
      exact Wk.zreturn X d7_55 (by decide) (by decide) (Or.inl rfl) ⟨by simp [q1], rfl⟩
set_option maxRecDepth 65536 in
set_option maxHeartbeats 40000000 in
theorem con_law (l : Launch) (Z : State) (a0 : Array Value) (hw : ∀ d ∈ tables_1, d.before a0 Z = true) (ws : List Jvm.Cond) (p0 : Int32) (s0 s1 s2 s3 s4 s5 : Addr) (cs : Int32) (ncs : cs ≠ 0) (SC : Sta Z Z.heap "java/lang/String" "COMPACT_STRINGS" "Z" (.int cs)) (S0 : Est Z Z.heap "AWAITING_AUTHORISATION" 0 66 s0) (S1 : Est Z Z.heap "AUTHORISED" 1 89 s1) (S2 : Est Z Z.heap "USED" 2 75 s2) (S3 : Est Z Z.heap "ORDERED" 3 69 s3) (S4 : Est Z Z.heap "ENDED" 4 83 s4) (S5 : Est Z Z.heap "CANCELLED" 5 73 s5) (hK1 : Jvm.Lit.constHeld Z "com/example/karekod/karekod/consent/ConsentStateTokensLivePinLaw" 37) (hK2 : Jvm.Lit.constHeld Z "com/example/karekod/karekod/consent/ConsentStateTokensLivePinLaw" 45) (hcw : Jvm.Lit.compactW.before a0 Z = true) :
    ConW l x code maxLocals ret room_1 ws Z #[(.int p0)] (fun v => v = some (.int 1)) := by
  refine ConW.of (plainFor_of_name pn3) ?_
  intro p e m below meth c T X nm
  have T2 := S2.1
  have T3 := S3.1
  have wS : ∀ d ∈ Bundle.stringAtoms, d.before a0 Z = true := fun d hd => hw d (own_atoms d hd)
  have hS : Z.Since Z.vm 0 := (State.WarmedH.refl Z).since 0
  have hk : 0 ≤ Z.heap.size := Nat.zero_le _
  have hI : IB Z Z.vm [] := IB.start
  have d02 : ¬ s0 = s2 := Est.ne S0 S2 (by decide)
  have d03 : ¬ s0 = s3 := Est.ne S0 S3 (by decide)
  have d12 : ¬ s1 = s2 := Est.ne S1 S2 (by decide)
  have d13 : ¬ s1 = s3 := Est.ne S1 S3 (by decide)
  have d42 : ¬ s4 = s2 := Est.ne S4 S2 (by decide)
  have d43 : ¬ s4 = s3 := Est.ne S4 S3 (by decide)
  have d52 : ¬ s5 = s2 := Est.ne S5 S2 (by decide)
  have d53 : ¬ s5 = s3 := Est.ne S5 S3 (by decide)
  rw [show entryFrame m #[(.int p0)] maxLocals = mkF m 0 #[.val (.int p0), .unset, .unset, .unset, .unset, .unset, .unset] [] from by (first | (simp [entryFrame, mkF, argsToLocals, Value.category, maxLocals]; done) | rfl)]
  refine Wk.iloadN X at_0 1 rfl rfl ?_
  refine Wk.ldcInt X (t0 hw) at_1 3 rfl ?_
  refine Wk.iand X at_3 4 rfl ?_
  refine Wk.bipush X at_4 6 rfl (6 : Int32) rfl ?_
  refine Wk.irem X at_6 7 rfl (by decide) ?_
  refine Wk.istoreN X at_7 8 rfl #[.val (.int p0), .val (.int ((p0 &&& (2147483647 : Int32)) % (6 : Int32))), .unset, .unset, .unset, .unset, .unset] rfl ?_
  have hi := own_n6 p0
  generalize ((p0 &&& (2147483647 : Int32)) % (6 : Int32)) = i at hi ⊢
  rcases hi with rfl | rfl | rfl | rfl | rfl | rfl
  · show Wk p.tables e below _ (T.setTop (mkF m 8 #[.val (.int p0), .val (.int (0 : Int32)), .unset, .unset, .unset, .unset, .unset] []))
    obtain ⟨St, Ea, Fo, t, b, F, E, FV, FC, A⟩ := S0
    refine Wk.iloadN X at_8 9 rfl rfl ?_
    refine Wk.ifcF X at_9 12 rfl (show (0 : Int32) = (0 : Int32) from (by decide)) ?_
    refine Wk.getstatic X (t1 hw) Via.refl St at_12 15 rfl ?_
    intro T X
    refine Wk.astoreN X at_15 16 rfl #[.val (.int p0), .val (.int (0 : Int32)), .val (.ref s0), .unset, .unset, .unset, .unset] rfl rfl ?_
    refine Wk.iconst X at_16 17 rfl (0 : Int32) rfl ?_
    refine Wk.istoreN X at_17 18 rfl #[.val (.int p0), .val (.int (0 : Int32)), .val (.ref s0), .val (.int (0 : Int32)), .unset, .unset, .unset] rfl ?_
    refine Wk.goto X at_18 83 (by decide) ?_
    refine Wk.aloadN X at_83 84 rfl rfl rfl ?_
    refine Wk.callV X (t4 hw) (t5 hw) (t7 hw) (t6 hw) (t2 hw) (t8 hw) Ea (con_tok l Z a0 hw [] Z.heap Z.heap.size s0 s2 s3 T2 T3) (by decide) pd1 [] [] rfl rfl rfl rfl 0 (Nat.le_of_eq rfl) (by decide) (by decide) (by decide) (by decide) 0 0 rfl rfl at_84 87 rfl ?_
    rintro _ T _ X ⟨rfl, rfl⟩
    show Wk p.tables e below _ (T.setTop (mkF m 87 #[.val (.int p0), .val (.int (0 : Int32)), .val (.ref s0), .val (.int (0 : Int32)), .unset, .unset, .unset] [(.int (if s0 = s2 ∨ s0 = s3 then 1 else 0))]))
    refine Wk.topI (0 : Int32) (by simp [d02, d03]) ?_
    refine Wk.istore X at_87 89 rfl #[.val (.int p0), .val (.int (0 : Int32)), .val (.ref s0), .val (.int (0 : Int32)), .val (.int (0 : Int32)), .unset, .unset] rfl ?_
    refine Wk.aloadN X at_89 90 rfl rfl rfl ?_
    refine Wk.callV X (t13 hw) (t14 hw) (t16 hw) (t15 hw) (t2 hw) (t17 hw) Ea (con_code l Z a0 hw [] Z.heap Z.heap.size s0 t F) (by decide) pd2 [] [] rfl rfl rfl rfl 0 (Nat.le_of_eq rfl) (by decide) (by decide) (by decide) (by decide) 0 0 rfl rfl at_90 93 rfl ?_
    rintro _ T _ X ⟨rfl, rfl⟩
    show Wk p.tables e below _ (T.setTop (mkF m 93 #[.val (.int p0), .val (.int (0 : Int32)), .val (.ref s0), .val (.int (0 : Int32)), .val (.int (0 : Int32)), .unset, .unset] [(.ref t)]))
    refine Wk.astore X at_93 95 rfl #[.val (.int p0), .val (.int (0 : Int32)), .val (.ref s0), .val (.int (0 : Int32)), .val (.int (0 : Int32)), .val (.ref t), .unset] rfl rfl ?_
    refine Wk.aload X at_95 97 rfl rfl rfl ?_
    refine Wk.ldcLit X (vs := [.int 75]) (t20 hw) wS hS hk hI (by decide) hK1 hcw 1 ⟨by decide, rfl⟩ (by decide) rfl (by decide) at_97 99 rfl 4 (by decide) (by decide) (by decide) (by decide) 2 8 rfl rfl ?_
    intro u1 b1 T h1 k1 vm1 X E1 hS hk hI Eu FCu FVu Bu
    have E := Exa.ext E1 E
    have FV := Fld.ext E1 FV
    have FC := Fld.ext E1 FC
    have A := A.ext E1
    have SC := Sta.ext E1 SC
    refine Wk.callV X (t28 hw) (t29 hw) (t31 hw) (t30 hw) (t21 hw) (t32 hw) E (con_eq l Z a0 hw [] h1 Z.heap.size t u1 b b1 cs 66 75 ncs SC Eu FV FC FVu FCu A Bu) (by decide) pd3 [(.ref u1)] [] rfl rfl rfl rfl 0 (Nat.le_of_eq rfl) (by decide) (by decide) (by decide) (by decide) 2 8 rfl rfl at_99 102 rfl ?_
    rintro _ T _ X ⟨rfl, rfl⟩
    show Wk p.tables e below _ (T.setTop (mkF m 102 #[.val (.int p0), .val (.int (0 : Int32)), .val (.ref s0), .val (.int (0 : Int32)), .val (.int (0 : Int32)), .val (.ref t), .unset] [(.int (if (66 : Int32) = (75 : Int32) then 1 else 0))]))
    refine Wk.topI (0 : Int32) (by decide) ?_
    refine Wk.ifcF X at_102 105 rfl (show (0 : Int32) = (0 : Int32) from (by decide)) ?_
    refine Wk.aload X at_105 107 rfl rfl rfl ?_
    refine Wk.ldcLit X (vs := [.int 69]) (t42 hw) wS hS hk hI (by decide) hK2 hcw 1 ⟨by decide, rfl⟩ (by decide) rfl (by decide) at_107 109 rfl 4 (by decide) (by decide) (by decide) (by decide) 4 16 rfl rfl ?_
    intro u2 b2 T h2 k2 vm2 X E2 hS hk hI Eu FCu FVu Bu
    have E := Exa.ext E2 E
    have FV := Fld.ext E2 FV
    have FC := Fld.ext E2 FC
    have A := A.ext E2
    have SC := Sta.ext E2 SC
    refine Wk.callV X (t28 hw) (t29 hw) (t31 hw) (t30 hw) (t21 hw) (t32 hw) E (con_eq l Z a0 hw [] h2 Z.heap.size t u2 b b2 cs 66 69 ncs SC Eu FV FC FVu FCu A Bu) (by decide) pd3 [(.ref u2)] [] rfl rfl rfl rfl 0 (Nat.le_of_eq rfl) (by decide) (by decide) (by decide) (by decide) 4 16 rfl rfl at_109 112 rfl ?_
    rintro _ T _ X ⟨rfl, rfl⟩
    show Wk p.tables e below _ (T.setTop (mkF m 112 #[.val (.int p0), .val (.int (0 : Int32)), .val (.ref s0), .val (.int (0 : Int32)), .val (.int (0 : Int32)), .val (.ref t), .unset] [(.int (if (66 : Int32) = (69 : Int32) then 1 else 0))]))
    refine Wk.topI (0 : Int32) (by decide) ?_
    refine Wk.ifcT X at_112 119 (by decide) (show (0 : Int32) = (0 : Int32) from (by decide)) ?_
    refine Wk.iconst X at_119 120 rfl (0 : Int32) rfl ?_
    refine Wk.istore X at_120 122 rfl #[.val (.int p0), .val (.int (0 : Int32)), .val (.ref s0), .val (.int (0 : Int32)), .val (.int (0 : Int32)), .val (.ref t), .val (.int (0 : Int32))] rfl ?_
    refine Wk.iload X at_122 124 rfl rfl ?_
    refine Wk.iloadN X at_124 125 rfl rfl ?_
    refine Wk.icmpF X at_125 128 rfl (show (0 : Int32) = (0 : Int32) from (by decide)) ?_
    refine Wk.iload X at_128 130 rfl rfl ?_
    refine Wk.iload X at_130 132 rfl rfl ?_
    refine Wk.icmpF X at_132 135 rfl (show (0 : Int32) = (0 : Int32) from (by decide)) ?_
    refine Wk.iconst X at_135 136 rfl (1 : Int32) rfl ?_
    refine Wk.goto X at_136 140 (by decide) ?_
    exact Wk.zreturnW X hS hk at_140 (by decide) (by decide) (Or.inr rfl) rfl
  · show Wk p.tables e below _ (T.setTop (mkF m 8 #[.val (.int p0), .val (.int (1 : Int32)), .unset, .unset, .unset, .unset, .unset] []))
    obtain ⟨St, Ea, Fo, t, b, F, E, FV, FC, A⟩ := S1
    refine Wk.iloadN X at_8 9 rfl rfl ?_
    refine Wk.ifcT X at_9 21 (by decide) (show ¬ (1 : Int32) = (0 : Int32) from (by decide)) ?_
    refine Wk.iloadN X at_21 22 rfl rfl ?_
    refine Wk.iconst X at_22 23 rfl (1 : Int32) rfl ?_
    refine Wk.icmpF X at_23 26 rfl (show (1 : Int32) = (1 : Int32) from (by decide)) ?_
    refine Wk.getstatic X (t45 hw) Via.refl St at_26 29 rfl ?_
    intro T X
    refine Wk.astoreN X at_29 30 rfl #[.val (.int p0), .val (.int (1 : Int32)), .val (.ref s1), .unset, .unset, .unset, .unset] rfl rfl ?_
    refine Wk.iconst X at_30 31 rfl (0 : Int32) rfl ?_
    refine Wk.istoreN X at_31 32 rfl #[.val (.int p0), .val (.int (1 : Int32)), .val (.ref s1), .val (.int (0 : Int32)), .unset, .unset, .unset] rfl ?_
    refine Wk.goto X at_32 83 (by decide) ?_
    refine Wk.aloadN X at_83 84 rfl rfl rfl ?_
    refine Wk.callV X (t4 hw) (t5 hw) (t7 hw) (t6 hw) (t2 hw) (t8 hw) Ea (con_tok l Z a0 hw [] Z.heap Z.heap.size s1 s2 s3 T2 T3) (by decide) pd1 [] [] rfl rfl rfl rfl 0 (Nat.le_of_eq rfl) (by decide) (by decide) (by decide) (by decide) 0 0 rfl rfl at_84 87 rfl ?_
    rintro _ T _ X ⟨rfl, rfl⟩
    show Wk p.tables e below _ (T.setTop (mkF m 87 #[.val (.int p0), .val (.int (1 : Int32)), .val (.ref s1), .val (.int (0 : Int32)), .unset, .unset, .unset] [(.int (if s1 = s2 ∨ s1 = s3 then 1 else 0))]))
    refine Wk.topI (0 : Int32) (by simp [d12, d13]) ?_
    refine Wk.istore X at_87 89 rfl #[.val (.int p0), .val (.int (1 : Int32)), .val (.ref s1), .val (.int (0 : Int32)), .val (.int (0 : Int32)), .unset, .unset] rfl ?_
    refine Wk.aloadN X at_89 90 rfl rfl rfl ?_
    refine Wk.callV X (t13 hw) (t14 hw) (t16 hw) (t15 hw) (t2 hw) (t17 hw) Ea (con_code l Z a0 hw [] Z.heap Z.heap.size s1 t F) (by decide) pd2 [] [] rfl rfl rfl rfl 0 (Nat.le_of_eq rfl) (by decide) (by decide) (by decide) (by decide) 0 0 rfl rfl at_90 93 rfl ?_
    rintro _ T _ X ⟨rfl, rfl⟩
    show Wk p.tables e below _ (T.setTop (mkF m 93 #[.val (.int p0), .val (.int (1 : Int32)), .val (.ref s1), .val (.int (0 : Int32)), .val (.int (0 : Int32)), .unset, .unset] [(.ref t)]))
    refine Wk.astore X at_93 95 rfl #[.val (.int p0), .val (.int (1 : Int32)), .val (.ref s1), .val (.int (0 : Int32)), .val (.int (0 : Int32)), .val (.ref t), .unset] rfl rfl ?_
    refine Wk.aload X at_95 97 rfl rfl rfl ?_
    refine Wk.ldcLit X (vs := [.int 75]) (t20 hw) wS hS hk hI (by decide) hK1 hcw 1 ⟨by decide, rfl⟩ (by decide) rfl (by decide) at_97 99 rfl 4 (by decide) (by decide) (by decide) (by decide) 2 8 rfl rfl ?_
    intro u1 b1 T h1 k1 vm1 X E1 hS hk hI Eu FCu FVu Bu
    have E := Exa.ext E1 E
    have FV := Fld.ext E1 FV
    have FC := Fld.ext E1 FC
    have A := A.ext E1
    have SC := Sta.ext E1 SC
    refine Wk.callV X (t28 hw) (t29 hw) (t31 hw) (t30 hw) (t21 hw) (t32 hw) E (con_eq l Z a0 hw [] h1 Z.heap.size t u1 b b1 cs 89 75 ncs SC Eu FV FC FVu FCu A Bu) (by decide) pd3 [(.ref u1)] [] rfl rfl rfl rfl 0 (Nat.le_of_eq rfl) (by decide) (by decide) (by decide) (by decide) 2 8 rfl rfl at_99 102 rfl ?_
    rintro _ T _ X ⟨rfl, rfl⟩
    show Wk p.tables e below _ (T.setTop (mkF m 102 #[.val (.int p0), .val (.int (1 : Int32)), .val (.ref s1), .val (.int (0 : Int32)), .val (.int (0 : Int32)), .val (.ref t), .unset] [(.int (if (89 : Int32) = (75 : Int32) then 1 else 0))]))
    refine Wk.topI (0 : Int32) (by decide) ?_
    refine Wk.ifcF X at_102 105 rfl (show (0 : Int32) = (0 : Int32) from (by decide)) ?_
    refine Wk.aload X at_105 107 rfl rfl rfl ?_
    refine Wk.ldcLit X (vs := [.int 69]) (t42 hw) wS hS hk hI (by decide) hK2 hcw 1 ⟨by decide, rfl⟩ (by decide) rfl (by decide) at_107 109 rfl 4 (by decide) (by decide) (by decide) (by decide) 4 16 rfl rfl ?_
    intro u2 b2 T h2 k2 vm2 X E2 hS hk hI Eu FCu FVu Bu
    have E := Exa.ext E2 E
    have FV := Fld.ext E2 FV
    have FC := Fld.ext E2 FC
    have A := A.ext E2
    have SC := Sta.ext E2 SC
    refine Wk.callV X (t28 hw) (t29 hw) (t31 hw) (t30 hw) (t21 hw) (t32 hw) E (con_eq l Z a0 hw [] h2 Z.heap.size t u2 b b2 cs 89 69 ncs SC Eu FV FC FVu FCu A Bu) (by decide) pd3 [(.ref u2)] [] rfl rfl rfl rfl 0 (Nat.le_of_eq rfl) (by decide) (by decide) (by decide) (by decide) 4 16 rfl rfl at_109 112 rfl ?_
    rintro _ T _ X ⟨rfl, rfl⟩
    show Wk p.tables e below _ (T.setTop (mkF m 112 #[.val (.int p0), .val (.int (1 : Int32)), .val (.ref s1), .val (.int (0 : Int32)), .val (.int (0 : Int32)), .val (.ref t), .unset] [(.int (if (89 : Int32) = (69 : Int32) then 1 else 0))]))
    refine Wk.topI (0 : Int32) (by decide) ?_
    refine Wk.ifcT X at_112 119 (by decide) (show (0 : Int32) = (0 : Int32) from (by decide)) ?_
    refine Wk.iconst X at_119 120 rfl (0 : Int32) rfl ?_
    refine Wk.istore X at_120 122 rfl #[.val (.int p0), .val (.int (1 : Int32)), .val (.ref s1), .val (.int (0 : Int32)), .val (.int (0 : Int32)), .val (.ref t), .val (.int (0 : Int32))] rfl ?_
    refine Wk.iload X at_122 124 rfl rfl ?_
    refine Wk.iloadN X at_124 125 rfl rfl ?_
    refine Wk.icmpF X at_125 128 rfl (show (0 : Int32) = (0 : Int32) from (by decide)) ?_
    refine Wk.iload X at_128 130 rfl rfl ?_
    refine Wk.iload X at_130 132 rfl rfl ?_
    refine Wk.icmpF X at_132 135 rfl (show (0 : Int32) = (0 : Int32) from (by decide)) ?_
    refine Wk.iconst X at_135 136 rfl (1 : Int32) rfl ?_
    refine Wk.goto X at_136 140 (by decide) ?_
    exact Wk.zreturnW X hS hk at_140 (by decide) (by decide) (Or.inr rfl) rfl
  · show Wk p.tables e below _ (T.setTop (mkF m 8 #[.val (.int p0), .val (.int (2 : Int32)), .unset, .unset, .unset, .unset, .unset] []))
    obtain ⟨St, Ea, Fo, t, b, F, E, FV, FC, A⟩ := S2
    refine Wk.iloadN X at_8 9 rfl rfl ?_
    refine Wk.ifcT X at_9 21 (by decide) (show ¬ (2 : Int32) = (0 : Int32) from (by decide)) ?_
    refine Wk.iloadN X at_21 22 rfl rfl ?_
    refine Wk.iconst X at_22 23 rfl (1 : Int32) rfl ?_
    refine Wk.icmpT X at_23 35 (by decide) (show ¬ (2 : Int32) = (1 : Int32) from (by decide)) ?_
    refine Wk.iloadN X at_35 36 rfl rfl ?_
    refine Wk.iconst X at_36 37 rfl (2 : Int32) rfl ?_
    refine Wk.icmpF X at_37 40 rfl (show (2 : Int32) = (2 : Int32) from (by decide)) ?_
    refine Wk.getstatic X (t44 hw) Via.refl St at_40 43 rfl ?_
    intro T X
    refine Wk.astoreN X at_43 44 rfl #[.val (.int p0), .val (.int (2 : Int32)), .val (.ref s2), .unset, .unset, .unset, .unset] rfl rfl ?_
    refine Wk.iconst X at_44 45 rfl (1 : Int32) rfl ?_
    refine Wk.istoreN X at_45 46 rfl #[.val (.int p0), .val (.int (2 : Int32)), .val (.ref s2), .val (.int (1 : Int32)), .unset, .unset, .unset] rfl ?_
    refine Wk.goto X at_46 83 (by decide) ?_
    refine Wk.aloadN X at_83 84 rfl rfl rfl ?_
    refine Wk.callV X (t4 hw) (t5 hw) (t7 hw) (t6 hw) (t2 hw) (t8 hw) Ea (con_tok l Z a0 hw [] Z.heap Z.heap.size s2 s2 s3 T2 T3) (by decide) pd1 [] [] rfl rfl rfl rfl 0 (Nat.le_of_eq rfl) (by decide) (by decide) (by decide) (by decide) 0 0 rfl rfl at_84 87 rfl ?_
    rintro _ T _ X ⟨rfl, rfl⟩
    show Wk p.tables e below _ (T.setTop (mkF m 87 #[.val (.int p0), .val (.int (2 : Int32)), .val (.ref s2), .val (.int (1 : Int32)), .unset, .unset, .unset] [(.int (if s2 = s2 ∨ s2 = s3 then 1 else 0))]))
    refine Wk.topI (1 : Int32) (by simp) ?_
    refine Wk.istore X at_87 89 rfl #[.val (.int p0), .val (.int (2 : Int32)), .val (.ref s2), .val (.int (1 : Int32)), .val (.int (1 : Int32)), .unset, .unset] rfl ?_
    refine Wk.aloadN X at_89 90 rfl rfl rfl ?_
    refine Wk.callV X (t13 hw) (t14 hw) (t16 hw) (t15 hw) (t2 hw) (t17 hw) Ea (con_code l Z a0 hw [] Z.heap Z.heap.size s2 t F) (by decide) pd2 [] [] rfl rfl rfl rfl 0 (Nat.le_of_eq rfl) (by decide) (by decide) (by decide) (by decide) 0 0 rfl rfl at_90 93 rfl ?_
    rintro _ T _ X ⟨rfl, rfl⟩
    show Wk p.tables e below _ (T.setTop (mkF m 93 #[.val (.int p0), .val (.int (2 : Int32)), .val (.ref s2), .val (.int (1 : Int32)), .val (.int (1 : Int32)), .unset, .unset] [(.ref t)]))
    refine Wk.astore X at_93 95 rfl #[.val (.int p0), .val (.int (2 : Int32)), .val (.ref s2), .val (.int (1 : Int32)), .val (.int (1 : Int32)), .val (.ref t), .unset] rfl rfl ?_
    refine Wk.aload X at_95 97 rfl rfl rfl ?_
    refine Wk.ldcLit X (vs := [.int 75]) (t20 hw) wS hS hk hI (by decide) hK1 hcw 1 ⟨by decide, rfl⟩ (by decide) rfl (by decide) at_97 99 rfl 4 (by decide) (by decide) (by decide) (by decide) 2 8 rfl rfl ?_
    intro u1 b1 T h1 k1 vm1 X E1 hS hk hI Eu FCu FVu Bu
    have E := Exa.ext E1 E
    have FV := Fld.ext E1 FV
    have FC := Fld.ext E1 FC
    have A := A.ext E1
    have SC := Sta.ext E1 SC
    refine Wk.callV X (t28 hw) (t29 hw) (t31 hw) (t30 hw) (t21 hw) (t32 hw) E (con_eq l Z a0 hw [] h1 Z.heap.size t u1 b b1 cs 75 75 ncs SC Eu FV FC FVu FCu A Bu) (by decide) pd3 [(.ref u1)] [] rfl rfl rfl rfl 0 (Nat.le_of_eq rfl) (by decide) (by decide) (by decide) (by decide) 2 8 rfl rfl at_99 102 rfl ?_
    rintro _ T _ X ⟨rfl, rfl⟩
    show Wk p.tables e below _ (T.setTop (mkF m 102 #[.val (.int p0), .val (.int (2 : Int32)), .val (.ref s2), .val (.int (1 : Int32)), .val (.int (1 : Int32)), .val (.ref t), .unset] [(.int (if (75 : Int32) = (75 : Int32) then 1 else 0))]))
    refine Wk.topI (1 : Int32) (by decide) ?_
    refine Wk.ifcT X at_102 115 (by decide) (show ¬ (1 : Int32) = (0 : Int32) from (by decide)) ?_
    refine Wk.iconst X at_115 116 rfl (1 : Int32) rfl ?_
    refine Wk.goto X at_116 120 (by decide) ?_
    refine Wk.istore X at_120 122 rfl #[.val (.int p0), .val (.int (2 : Int32)), .val (.ref s2), .val (.int (1 : Int32)), .val (.int (1 : Int32)), .val (.ref t), .val (.int (1 : Int32))] rfl ?_
    refine Wk.iload X at_122 124 rfl rfl ?_
    refine Wk.iloadN X at_124 125 rfl rfl ?_
    refine Wk.icmpF X at_125 128 rfl (show (1 : Int32) = (1 : Int32) from (by decide)) ?_
    refine Wk.iload X at_128 130 rfl rfl ?_
    refine Wk.iload X at_130 132 rfl rfl ?_
    refine Wk.icmpF X at_132 135 rfl (show (1 : Int32) = (1 : Int32) from (by decide)) ?_
    refine Wk.iconst X at_135 136 rfl (1 : Int32) rfl ?_
    refine Wk.goto X at_136 140 (by decide) ?_
    exact Wk.zreturnW X hS hk at_140 (by decide) (by decide) (Or.inr rfl) rfl
  · show Wk p.tables e below _ (T.setTop (mkF m 8 #[.val (.int p0), .val (.int (3 : Int32)), .unset, .unset, .unset, .unset, .unset] []))
    obtain ⟨St, Ea, Fo, t, b, F, E, FV, FC, A⟩ := S3
    refine Wk.iloadN X at_8 9 rfl rfl ?_
    refine Wk.ifcT X at_9 21 (by decide) (show ¬ (3 : Int32) = (0 : Int32) from (by decide)) ?_
    refine Wk.iloadN X at_21 22 rfl rfl ?_
    refine Wk.iconst X at_22 23 rfl (1 : Int32) rfl ?_
    refine Wk.icmpT X at_23 35 (by decide) (show ¬ (3 : Int32) = (1 : Int32) from (by decide)) ?_
    refine Wk.iloadN X at_35 36 rfl rfl ?_
    refine Wk.iconst X at_36 37 rfl (2 : Int32) rfl ?_
    refine Wk.icmpT X at_37 49 (by decide) (show ¬ (3 : Int32) = (2 : Int32) from (by decide)) ?_
    refine Wk.iloadN X at_49 50 rfl rfl ?_
    refine Wk.iconst X at_50 51 rfl (3 : Int32) rfl ?_
    refine Wk.icmpF X at_51 54 rfl (show (3 : Int32) = (3 : Int32) from (by decide)) ?_
    refine Wk.getstatic X (t43 hw) Via.refl St at_54 57 rfl ?_
    intro T X
    refine Wk.astoreN X at_57 58 rfl #[.val (.int p0), .val (.int (3 : Int32)), .val (.ref s3), .unset, .unset, .unset, .unset] rfl rfl ?_
    refine Wk.iconst X at_58 59 rfl (1 : Int32) rfl ?_
    refine Wk.istoreN X at_59 60 rfl #[.val (.int p0), .val (.int (3 : Int32)), .val (.ref s3), .val (.int (1 : Int32)), .unset, .unset, .unset] rfl ?_
    refine Wk.goto X at_60 83 (by decide) ?_
    refine Wk.aloadN X at_83 84 rfl rfl rfl ?_
    refine Wk.callV X (t4 hw) (t5 hw) (t7 hw) (t6 hw) (t2 hw) (t8 hw) Ea (con_tok l Z a0 hw [] Z.heap Z.heap.size s3 s2 s3 T2 T3) (by decide) pd1 [] [] rfl rfl rfl rfl 0 (Nat.le_of_eq rfl) (by decide) (by decide) (by decide) (by decide) 0 0 rfl rfl at_84 87 rfl ?_
    rintro _ T _ X ⟨rfl, rfl⟩
    show Wk p.tables e below _ (T.setTop (mkF m 87 #[.val (.int p0), .val (.int (3 : Int32)), .val (.ref s3), .val (.int (1 : Int32)), .unset, .unset, .unset] [(.int (if s3 = s2 ∨ s3 = s3 then 1 else 0))]))
    refine Wk.topI (1 : Int32) (by simp) ?_
    refine Wk.istore X at_87 89 rfl #[.val (.int p0), .val (.int (3 : Int32)), .val (.ref s3), .val (.int (1 : Int32)), .val (.int (1 : Int32)), .unset, .unset] rfl ?_
    refine Wk.aloadN X at_89 90 rfl rfl rfl ?_
    refine Wk.callV X (t13 hw) (t14 hw) (t16 hw) (t15 hw) (t2 hw) (t17 hw) Ea (con_code l Z a0 hw [] Z.heap Z.heap.size s3 t F) (by decide) pd2 [] [] rfl rfl rfl rfl 0 (Nat.le_of_eq rfl) (by decide) (by decide) (by decide) (by decide) 0 0 rfl rfl at_90 93 rfl ?_
    rintro _ T _ X ⟨rfl, rfl⟩
    show Wk p.tables e below _ (T.setTop (mkF m 93 #[.val (.int p0), .val (.int (3 : Int32)), .val (.ref s3), .val (.int (1 : Int32)), .val (.int (1 : Int32)), .unset, .unset] [(.ref t)]))
    refine Wk.astore X at_93 95 rfl #[.val (.int p0), .val (.int (3 : Int32)), .val (.ref s3), .val (.int (1 : Int32)), .val (.int (1 : Int32)), .val (.ref t), .unset] rfl rfl ?_
    refine Wk.aload X at_95 97 rfl rfl rfl ?_
    refine Wk.ldcLit X (vs := [.int 75]) (t20 hw) wS hS hk hI (by decide) hK1 hcw 1 ⟨by decide, rfl⟩ (by decide) rfl (by decide) at_97 99 rfl 4 (by decide) (by decide) (by decide) (by decide) 2 8 rfl rfl ?_
    intro u1 b1 T h1 k1 vm1 X E1 hS hk hI Eu FCu FVu Bu
    have E := Exa.ext E1 E
    have FV := Fld.ext E1 FV
    have FC := Fld.ext E1 FC
    have A := A.ext E1
    have SC := Sta.ext E1 SC
    refine Wk.callV X (t28 hw) (t29 hw) (t31 hw) (t30 hw) (t21 hw) (t32 hw) E (con_eq l Z a0 hw [] h1 Z.heap.size t u1 b b1 cs 69 75 ncs SC Eu FV FC FVu FCu A Bu) (by decide) pd3 [(.ref u1)] [] rfl rfl rfl rfl 0 (Nat.le_of_eq rfl) (by decide) (by decide) (by decide) (by decide) 2 8 rfl rfl at_99 102 rfl ?_
    rintro _ T _ X ⟨rfl, rfl⟩
    show Wk p.tables e below _ (T.setTop (mkF m 102 #[.val (.int p0), .val (.int (3 : Int32)), .val (.ref s3), .val (.int (1 : Int32)), .val (.int (1 : Int32)), .val (.ref t), .unset] [(.int (if (69 : Int32) = (75 : Int32) then 1 else 0))]))
    refine Wk.topI (0 : Int32) (by decide) ?_
    refine Wk.ifcF X at_102 105 rfl (show (0 : Int32) = (0 : Int32) from (by decide)) ?_
    refine Wk.aload X at_105 107 rfl rfl rfl ?_
    refine Wk.ldcLit X (vs := [.int 69]) (t42 hw) wS hS hk hI (by decide) hK2 hcw 1 ⟨by decide, rfl⟩ (by decide) rfl (by decide) at_107 109 rfl 4 (by decide) (by decide) (by decide) (by decide) 4 16 rfl rfl ?_
    intro u2 b2 T h2 k2 vm2 X E2 hS hk hI Eu FCu FVu Bu
    have E := Exa.ext E2 E
    have FV := Fld.ext E2 FV
    have FC := Fld.ext E2 FC
    have A := A.ext E2
    have SC := Sta.ext E2 SC
    refine Wk.callV X (t28 hw) (t29 hw) (t31 hw) (t30 hw) (t21 hw) (t32 hw) E (con_eq l Z a0 hw [] h2 Z.heap.size t u2 b b2 cs 69 69 ncs SC Eu FV FC FVu FCu A Bu) (by decide) pd3 [(.ref u2)] [] rfl rfl rfl rfl 0 (Nat.le_of_eq rfl) (by decide) (by decide) (by decide) (by decide) 4 16 rfl rfl at_109 112 rfl ?_
    rintro _ T _ X ⟨rfl, rfl⟩
    show Wk p.tables e below _ (T.setTop (mkF m 112 #[.val (.int p0), .val (.int (3 : Int32)), .val (.ref s3), .val (.int (1 : Int32)), .val (.int (1 : Int32)), .val (.ref t), .unset] [(.int (if (69 : Int32) = (69 : Int32) then 1 else 0))]))
    refine Wk.topI (1 : Int32) (by decide) ?_
    refine Wk.ifcF X at_112 115 rfl (show ¬ (1 : Int32) = (0 : Int32) from (by decide)) ?_
    refine Wk.iconst X at_115 116 rfl (1 : Int32) rfl ?_
    refine Wk.goto X at_116 120 (by decide) ?_
    refine Wk.istore X at_120 122 rfl #[.val (.int p0), .val (.int (3 : Int32)), .val (.ref s3), .val (.int (1 : Int32)), .val (.int (1 : Int32)), .val (.ref t), .val (.int (1 : Int32))] rfl ?_
    refine Wk.iload X at_122 124 rfl rfl ?_
    refine Wk.iloadN X at_124 125 rfl rfl ?_
    refine Wk.icmpF X at_125 128 rfl (show (1 : Int32) = (1 : Int32) from (by decide)) ?_
    refine Wk.iload X at_128 130 rfl rfl ?_
    refine Wk.iload X at_130 132 rfl rfl ?_
    refine Wk.icmpF X at_132 135 rfl (show (1 : Int32) = (1 : Int32) from (by decide)) ?_
    refine Wk.iconst X at_135 136 rfl (1 : Int32) rfl ?_
    refine Wk.goto X at_136 140 (by decide) ?_
    exact Wk.zreturnW X hS hk at_140 (by decide) (by decide) (Or.inr rfl) rfl
  · show Wk p.tables e below _ (T.setTop (mkF m 8 #[.val (.int p0), .val (.int (4 : Int32)), .unset, .unset, .unset, .unset, .unset] []))
    obtain ⟨St, Ea, Fo, t, b, F, E, FV, FC, A⟩ := S4
    refine Wk.iloadN X at_8 9 rfl rfl ?_
    refine Wk.ifcT X at_9 21 (by decide) (show ¬ (4 : Int32) = (0 : Int32) from (by decide)) ?_
    refine Wk.iloadN X at_21 22 rfl rfl ?_
    refine Wk.iconst X at_22 23 rfl (1 : Int32) rfl ?_
    refine Wk.icmpT X at_23 35 (by decide) (show ¬ (4 : Int32) = (1 : Int32) from (by decide)) ?_
    refine Wk.iloadN X at_35 36 rfl rfl ?_
    refine Wk.iconst X at_36 37 rfl (2 : Int32) rfl ?_
    refine Wk.icmpT X at_37 49 (by decide) (show ¬ (4 : Int32) = (2 : Int32) from (by decide)) ?_
    refine Wk.iloadN X at_49 50 rfl rfl ?_
    refine Wk.iconst X at_50 51 rfl (3 : Int32) rfl ?_
    refine Wk.icmpT X at_51 63 (by decide) (show ¬ (4 : Int32) = (3 : Int32) from (by decide)) ?_
    refine Wk.iloadN X at_63 64 rfl rfl ?_
    refine Wk.iconst X at_64 65 rfl (4 : Int32) rfl ?_
    refine Wk.icmpF X at_65 68 rfl (show (4 : Int32) = (4 : Int32) from (by decide)) ?_
    refine Wk.getstatic X (t49 hw) Via.refl St at_68 71 rfl ?_
    intro T X
    refine Wk.astoreN X at_71 72 rfl #[.val (.int p0), .val (.int (4 : Int32)), .val (.ref s4), .unset, .unset, .unset, .unset] rfl rfl ?_
    refine Wk.iconst X at_72 73 rfl (0 : Int32) rfl ?_
    refine Wk.istoreN X at_73 74 rfl #[.val (.int p0), .val (.int (4 : Int32)), .val (.ref s4), .val (.int (0 : Int32)), .unset, .unset, .unset] rfl ?_
    refine Wk.goto X at_74 83 (by decide) ?_
    refine Wk.aloadN X at_83 84 rfl rfl rfl ?_
    refine Wk.callV X (t4 hw) (t5 hw) (t7 hw) (t6 hw) (t2 hw) (t8 hw) Ea (con_tok l Z a0 hw [] Z.heap Z.heap.size s4 s2 s3 T2 T3) (by decide) pd1 [] [] rfl rfl rfl rfl 0 (Nat.le_of_eq rfl) (by decide) (by decide) (by decide) (by decide) 0 0 rfl rfl at_84 87 rfl ?_
    rintro _ T _ X ⟨rfl, rfl⟩
    show Wk p.tables e below _ (T.setTop (mkF m 87 #[.val (.int p0), .val (.int (4 : Int32)), .val (.ref s4), .val (.int (0 : Int32)), .unset, .unset, .unset] [(.int (if s4 = s2 ∨ s4 = s3 then 1 else 0))]))
    refine Wk.topI (0 : Int32) (by simp [d42, d43]) ?_
    refine Wk.istore X at_87 89 rfl #[.val (.int p0), .val (.int (4 : Int32)), .val (.ref s4), .val (.int (0 : Int32)), .val (.int (0 : Int32)), .unset, .unset] rfl ?_
    refine Wk.aloadN X at_89 90 rfl rfl rfl ?_
    refine Wk.callV X (t13 hw) (t14 hw) (t16 hw) (t15 hw) (t2 hw) (t17 hw) Ea (con_code l Z a0 hw [] Z.heap Z.heap.size s4 t F) (by decide) pd2 [] [] rfl rfl rfl rfl 0 (Nat.le_of_eq rfl) (by decide) (by decide) (by decide) (by decide) 0 0 rfl rfl at_90 93 rfl ?_
    rintro _ T _ X ⟨rfl, rfl⟩
    show Wk p.tables e below _ (T.setTop (mkF m 93 #[.val (.int p0), .val (.int (4 : Int32)), .val (.ref s4), .val (.int (0 : Int32)), .val (.int (0 : Int32)), .unset, .unset] [(.ref t)]))
    refine Wk.astore X at_93 95 rfl #[.val (.int p0), .val (.int (4 : Int32)), .val (.ref s4), .val (.int (0 : Int32)), .val (.int (0 : Int32)), .val (.ref t), .unset] rfl rfl ?_
    refine Wk.aload X at_95 97 rfl rfl rfl ?_
    refine Wk.ldcLit X (vs := [.int 75]) (t20 hw) wS hS hk hI (by decide) hK1 hcw 1 ⟨by decide, rfl⟩ (by decide) rfl (by decide) at_97 99 rfl 4 (by decide) (by decide) (by decide) (by decide) 2 8 rfl rfl ?_
    intro u1 b1 T h1 k1 vm1 X E1 hS hk hI Eu FCu FVu Bu
    have E := Exa.ext E1 E
    have FV := Fld.ext E1 FV
    have FC := Fld.ext E1 FC
    have A := A.ext E1
    have SC := Sta.ext E1 SC
    refine Wk.callV X (t28 hw) (t29 hw) (t31 hw) (t30 hw) (t21 hw) (t32 hw) E (con_eq l Z a0 hw [] h1 Z.heap.size t u1 b b1 cs 83 75 ncs SC Eu FV FC FVu FCu A Bu) (by decide) pd3 [(.ref u1)] [] rfl rfl rfl rfl 0 (Nat.le_of_eq rfl) (by decide) (by decide) (by decide) (by decide) 2 8 rfl rfl at_99 102 rfl ?_
    rintro _ T _ X ⟨rfl, rfl⟩
    show Wk p.tables e below _ (T.setTop (mkF m 102 #[.val (.int p0), .val (.int (4 : Int32)), .val (.ref s4), .val (.int (0 : Int32)), .val (.int (0 : Int32)), .val (.ref t), .unset] [(.int (if (83 : Int32) = (75 : Int32) then 1 else 0))]))
    refine Wk.topI (0 : Int32) (by decide) ?_
    refine Wk.ifcF X at_102 105 rfl (show (0 : Int32) = (0 : Int32) from (by decide)) ?_
    refine Wk.aload X at_105 107 rfl rfl rfl ?_
    refine Wk.ldcLit X (vs := [.int 69]) (t42 hw) wS hS hk hI (by decide) hK2 hcw 1 ⟨by decide, rfl⟩ (by decide) rfl (by decide) at_107 109 rfl 4 (by decide) (by decide) (by decide) (by decide) 4 16 rfl rfl ?_
    intro u2 b2 T h2 k2 vm2 X E2 hS hk hI Eu FCu FVu Bu
    have E := Exa.ext E2 E
    have FV := Fld.ext E2 FV
    have FC := Fld.ext E2 FC
    have A := A.ext E2
    have SC := Sta.ext E2 SC
    refine Wk.callV X (t28 hw) (t29 hw) (t31 hw) (t30 hw) (t21 hw) (t32 hw) E (con_eq l Z a0 hw [] h2 Z.heap.size t u2 b b2 cs 83 69 ncs SC Eu FV FC FVu FCu A Bu) (by decide) pd3 [(.ref u2)] [] rfl rfl rfl rfl 0 (Nat.le_of_eq rfl) (by decide) (by decide) (by decide) (by decide) 4 16 rfl rfl at_109 112 rfl ?_
    rintro _ T _ X ⟨rfl, rfl⟩
    show Wk p.tables e below _ (T.setTop (mkF m 112 #[.val (.int p0), .val (.int (4 : Int32)), .val (.ref s4), .val (.int (0 : Int32)), .val (.int (0 : Int32)), .val (.ref t), .unset] [(.int (if (83 : Int32) = (69 : Int32) then 1 else 0))]))
    refine Wk.topI (0 : Int32) (by decide) ?_
    refine Wk.ifcT X at_112 119 (by decide) (show (0 : Int32) = (0 : Int32) from (by decide)) ?_
    refine Wk.iconst X at_119 120 rfl (0 : Int32) rfl ?_
    refine Wk.istore X at_120 122 rfl #[.val (.int p0), .val (.int (4 : Int32)), .val (.ref s4), .val (.int (0 : Int32)), .val (.int (0 : Int32)), .val (.ref t), .val (.int (0 : Int32))] rfl ?_
    refine Wk.iload X at_122 124 rfl rfl ?_
    refine Wk.iloadN X at_124 125 rfl rfl ?_
    refine Wk.icmpF X at_125 128 rfl (show (0 : Int32) = (0 : Int32) from (by decide)) ?_
    refine Wk.iload X at_128 130 rfl rfl ?_
    refine Wk.iload X at_130 132 rfl rfl ?_
    refine Wk.icmpF X at_132 135 rfl (show (0 : Int32) = (0 : Int32) from (by decide)) ?_
    refine Wk.iconst X at_135 136 rfl (1 : Int32) rfl ?_
    refine Wk.goto X at_136 140 (by decide) ?_
    exact Wk.zreturnW X hS hk at_140 (by decide) (by decide) (Or.inr rfl) rfl
  · show Wk p.tables e below _ (T.setTop (mkF m 8 #[.val (.int p0), .val (.int (5 : Int32)), .unset, .unset, .unset, .unset, .unset] []))
    obtain ⟨St, Ea, Fo, t, b, F, E, FV, FC, A⟩ := S5
    refine Wk.iloadN X at_8 9 rfl rfl ?_
    refine Wk.ifcT X at_9 21 (by decide) (show ¬ (5 : Int32) = (0 : Int32) from (by decide)) ?_
    refine Wk.iloadN X at_21 22 rfl rfl ?_
    refine Wk.iconst X at_22 23 rfl (1 : Int32) rfl ?_
    refine Wk.icmpT X at_23 35 (by decide) (show ¬ (5 : Int32) = (1 : Int32) from (by decide)) ?_
    refine Wk.iloadN X at_35 36 rfl rfl ?_
    refine Wk.iconst X at_36 37 rfl (2 : Int32) rfl ?_
    refine Wk.icmpT X at_37 49 (by decide) (show ¬ (5 : Int32) = (2 : Int32) from (by decide)) ?_
    refine Wk.iloadN X at_49 50 rfl rfl ?_
    refine Wk.iconst X at_50 51 rfl (3 : Int32) rfl ?_
    refine Wk.icmpT X at_51 63 (by decide) (show ¬ (5 : Int32) = (3 : Int32) from (by decide)) ?_
    refine Wk.iloadN X at_63 64 rfl rfl ?_
    refine Wk.iconst X at_64 65 rfl (4 : Int32) rfl ?_
    refine Wk.icmpT X at_65 77 (by decide) (show ¬ (5 : Int32) = (4 : Int32) from (by decide)) ?_
    refine Wk.getstatic X (t47 hw) Via.refl St at_77 80 rfl ?_
    intro T X
    refine Wk.astoreN X at_80 81 rfl #[.val (.int p0), .val (.int (5 : Int32)), .val (.ref s5), .unset, .unset, .unset, .unset] rfl rfl ?_
    refine Wk.iconst X at_81 82 rfl (0 : Int32) rfl ?_
    refine Wk.istoreN X at_82 83 rfl #[.val (.int p0), .val (.int (5 : Int32)), .val (.ref s5), .val (.int (0 : Int32)), .unset, .unset, .unset] rfl ?_
    refine Wk.aloadN X at_83 84 rfl rfl rfl ?_
    refine Wk.callV X (t4 hw) (t5 hw) (t7 hw) (t6 hw) (t2 hw) (t8 hw) Ea (con_tok l Z a0 hw [] Z.heap Z.heap.size s5 s2 s3 T2 T3) (by decide) pd1 [] [] rfl rfl rfl rfl 0 (Nat.le_of_eq rfl) (by decide) (by decide) (by decide) (by decide) 0 0 rfl rfl at_84 87 rfl ?_
    rintro _ T _ X ⟨rfl, rfl⟩
    show Wk p.tables e below _ (T.setTop (mkF m 87 #[.val (.int p0), .val (.int (5 : Int32)), .val (.ref s5), .val (.int (0 : Int32)), .unset, .unset, .unset] [(.int (if s5 = s2 ∨ s5 = s3 then 1 else 0))]))
    refine Wk.topI (0 : Int32) (by simp [d52, d53]) ?_
    refine Wk.istore X at_87 89 rfl #[.val (.int p0), .val (.int (5 : Int32)), .val (.ref s5), .val (.int (0 : Int32)), .val (.int (0 : Int32)), .unset, .unset] rfl ?_
    refine Wk.aloadN X at_89 90 rfl rfl rfl ?_
    refine Wk.callV X (t13 hw) (t14 hw) (t16 hw) (t15 hw) (t2 hw) (t17 hw) Ea (con_code l Z a0 hw [] Z.heap Z.heap.size s5 t F) (by decide) pd2 [] [] rfl rfl rfl rfl 0 (Nat.le_of_eq rfl) (by decide) (by decide) (by decide) (by decide) 0 0 rfl rfl at_90 93 rfl ?_
    rintro _ T _ X ⟨rfl, rfl⟩
    show Wk p.tables e below _ (T.setTop (mkF m 93 #[.val (.int p0), .val (.int (5 : Int32)), .val (.ref s5), .val (.int (0 : Int32)), .val (.int (0 : Int32)), .unset, .unset] [(.ref t)]))
    refine Wk.astore X at_93 95 rfl #[.val (.int p0), .val (.int (5 : Int32)), .val (.ref s5), .val (.int (0 : Int32)), .val (.int (0 : Int32)), .val (.ref t), .unset] rfl rfl ?_
    refine Wk.aload X at_95 97 rfl rfl rfl ?_
    refine Wk.ldcLit X (vs := [.int 75]) (t20 hw) wS hS hk hI (by decide) hK1 hcw 1 ⟨by decide, rfl⟩ (by decide) rfl (by decide) at_97 99 rfl 4 (by decide) (by decide) (by decide) (by decide) 2 8 rfl rfl ?_
    intro u1 b1 T h1 k1 vm1 X E1 hS hk hI Eu FCu FVu Bu
    have E := Exa.ext E1 E
    have FV := Fld.ext E1 FV
    have FC := Fld.ext E1 FC
    have A := A.ext E1
    have SC := Sta.ext E1 SC
    refine Wk.callV X (t28 hw) (t29 hw) (t31 hw) (t30 hw) (t21 hw) (t32 hw) E (con_eq l Z a0 hw [] h1 Z.heap.size t u1 b b1 cs 73 75 ncs SC Eu FV FC FVu FCu A Bu) (by decide) pd3 [(.ref u1)] [] rfl rfl rfl rfl 0 (Nat.le_of_eq rfl) (by decide) (by decide) (by decide) (by decide) 2 8 rfl rfl at_99 102 rfl ?_
    rintro _ T _ X ⟨rfl, rfl⟩
    show Wk p.tables e below _ (T.setTop (mkF m 102 #[.val (.int p0), .val (.int (5 : Int32)), .val (.ref s5), .val (.int (0 : Int32)), .val (.int (0 : Int32)), .val (.ref t), .unset] [(.int (if (73 : Int32) = (75 : Int32) then 1 else 0))]))
    refine Wk.topI (0 : Int32) (by decide) ?_
    refine Wk.ifcF X at_102 105 rfl (show (0 : Int32) = (0 : Int32) from (by decide)) ?_
    refine Wk.aload X at_105 107 rfl rfl rfl ?_
    refine Wk.ldcLit X (vs := [.int 69]) (t42 hw) wS hS hk hI (by decide) hK2 hcw 1 ⟨by decide, rfl⟩ (by decide) rfl (by decide) at_107 109 rfl 4 (by decide) (by decide) (by decide) (by decide) 4 16 rfl rfl ?_
    intro u2 b2 T h2 k2 vm2 X E2 hS hk hI Eu FCu FVu Bu
    have E := Exa.ext E2 E
    have FV := Fld.ext E2 FV
    have FC := Fld.ext E2 FC
    have A := A.ext E2
    have SC := Sta.ext E2 SC
    refine Wk.callV X (t28 hw) (t29 hw) (t31 hw) (t30 hw) (t21 hw) (t32 hw) E (con_eq l Z a0 hw [] h2 Z.heap.size t u2 b b2 cs 73 69 ncs SC Eu FV FC FVu FCu A Bu) (by decide) pd3 [(.ref u2)] [] rfl rfl rfl rfl 0 (Nat.le_of_eq rfl) (by decide) (by decide) (by decide) (by decide) 4 16 rfl rfl at_109 112 rfl ?_
    rintro _ T _ X ⟨rfl, rfl⟩
    show Wk p.tables e below _ (T.setTop (mkF m 112 #[.val (.int p0), .val (.int (5 : Int32)), .val (.ref s5), .val (.int (0 : Int32)), .val (.int (0 : Int32)), .val (.ref t), .unset] [(.int (if (73 : Int32) = (69 : Int32) then 1 else 0))]))
    refine Wk.topI (0 : Int32) (by decide) ?_
    refine Wk.ifcT X at_112 119 (by decide) (show (0 : Int32) = (0 : Int32) from (by decide)) ?_
    refine Wk.iconst X at_119 120 rfl (0 : Int32) rfl ?_
    refine Wk.istore X at_120 122 rfl #[.val (.int p0), .val (.int (5 : Int32)), .val (.ref s5), .val (.int (0 : Int32)), .val (.int (0 : Int32)), .val (.ref t), .val (.int (0 : Int32))] rfl ?_
    refine Wk.iload X at_122 124 rfl rfl ?_
    refine Wk.iloadN X at_124 125 rfl rfl ?_
    refine Wk.icmpF X at_125 128 rfl (show (0 : Int32) = (0 : Int32) from (by decide)) ?_
    refine Wk.iload X at_128 130 rfl rfl ?_
    refine Wk.iload X at_130 132 rfl rfl ?_
    refine Wk.icmpF X at_132 135 rfl (show (0 : Int32) = (0 : Int32) from (by decide)) ?_
    refine Wk.iconst X at_135 136 rfl (1 : Int32) rfl ?_
    refine Wk.goto X at_136 140 (by decide) ?_
    exact Wk.zreturnW X hS hk at_140 (by decide) (by decide) (Or.inr rfl) rfl
set_option maxRecDepth 65536 in
set_option maxHeartbeats 40000000 in
theorem comes_1 {Post : Tables → Env → Array Value → State → Outcome → State → Prop} (hpost : ∀ tb e args s v u, (limb_1_1.after args s (.returned v) u = true ∧ limb_1_2.after args s (.returned v) u = true ∧ True) → ReturnedEndW s (.returned v) u (Jvm.fieldLocs frame_1_writes args s ++ Jvm.arrayLocs frame_1_arrays args s ++ Jvm.staticLocs frame_1_statics s) 8 2112 → Post tb e args s (.returned v) u) :
    ArmFor flags0 classFile x code maxLocals ret World_1 tables_1 room_1 Calls_1 rest_1 Pre_1 Post := by
  intro l hfl _ _ p e ha hc hk s m args below hf hA hF happ hP
  obtain ⟨hcalls, hrest, hpre⟩ := hP
  obtain ⟨-, -, -, hnamed, -, -, -, hat⟩ := (Spec.applies_iff hf).mp happ
  obtain ⟨hg, hn⟩ := and_e (Cond.before_iff.mp (show (Jvm.Cond.and given_1 narrow_1).before args s = true from hpre))
  obtain ⟨g0, r0⟩ := and_e hg
  have g1 := r0
  obtain ⟨w0, rfl⟩ : ∃ w0 : Value, args = #[w0] := by
    have hs : args.size = 1 := by simpa [Cond.value, given_1] using g0
    obtain ⟨L⟩ := args
    match L, hs with
    | [w0], _ => exact ⟨w0, rfl⟩
  have hw := fun d (hd : d ∈ tables_1) => atoms_spec (ws := Jvm.Cond.code x code maxLocals ret :: tables_1) hat d (List.mem_cons_of_mem _ hd)
  obtain ⟨i0, ei0⟩ := is_v g1
  obtain rfl : w0 = (.int i0) := Option.some.inj ei0
  obtain ⟨hsets, hown0⟩ := atoms_of _ (rest_1_c_eq ▸ (show rest_1_c.before _ s = true from hrest))
  obtain ⟨cs, ecs⟩ := is_v (Cond.before_iff.mp (hsets _ (List.mem_of_getElem? (i := 1) rfl)))
  have ncs : cs ≠ 0 := own_neq ecs (not_v (Cond.before_iff.mp (hsets _ (List.mem_of_getElem? (i := 2) rfl))))
  have SC : Sta s s.heap "java/lang/String" "COMPACT_STRINGS" "Z" (.int cs) := Sta.start ecs (Or.inl (hsets _ (List.mem_of_getElem? (i := 0) rfl)))
  obtain ⟨vS, evS, rS⟩ := isR_v (Cond.before_iff.mp (hsets _ (List.mem_of_getElem? (i := 8) rfl)))
  have SS : Sta s s.heap "jdk/internal/util/Preconditions" "SIOOBE_FORMATTER" "Ljava/util/function/BiFunction;" vS := Sta.start evS (Or.inl (hsets _ (List.mem_of_getElem? (i := 7) rfl)))
  have z0 := hn
  obtain ⟨x0, z1⟩ := and_e z0
  obtain ⟨x1, z2⟩ := and_e z1
  obtain ⟨x2, z3⟩ := and_e z2
  obtain ⟨x3, z4⟩ := and_e z3
  obtain ⟨x4, z5⟩ := and_e z4
  obtain ⟨x5, z6⟩ := and_e z5
  obtain ⟨x6, z7⟩ := and_e z6
  obtain ⟨x7, z8⟩ := and_e z7
  obtain ⟨x8, z9⟩ := and_e z8
  obtain ⟨x9, z10⟩ := and_e z9
  obtain ⟨x10, z11⟩ := and_e z10
  obtain ⟨x11, z12⟩ := and_e z11
  obtain ⟨x12, z13⟩ := and_e z12
  obtain ⟨x13, z14⟩ := and_e z13
  obtain ⟨x14, z15⟩ := and_e z14
  obtain ⟨x15, z16⟩ := and_e z15
  obtain ⟨x16, z17⟩ := and_e z16
  obtain ⟨x17, z18⟩ := and_e z17
  obtain ⟨x18, z19⟩ := and_e z18
  obtain ⟨x19, z20⟩ := and_e z19
  obtain ⟨x20, z21⟩ := and_e z20
  obtain ⟨x21, z22⟩ := and_e z21
  obtain ⟨x22, z23⟩ := and_e z22
  obtain ⟨x23, z24⟩ := and_e z23
  obtain ⟨x24, z25⟩ := and_e z24
  obtain ⟨x25, z26⟩ := and_e z25
  obtain ⟨x26, z27⟩ := and_e z26
  obtain ⟨x27, z28⟩ := and_e z27
  obtain ⟨x28, z29⟩ := and_e z28
  obtain ⟨x29, z30⟩ := and_e z29
  obtain ⟨x30, z31⟩ := and_e z30
  obtain ⟨x31, z32⟩ := and_e z31
  obtain ⟨x32, z33⟩ := and_e z32
  obtain ⟨x33, z34⟩ := and_e z33
  obtain ⟨x34, z35⟩ := and_e z34
  obtain ⟨x35, z36⟩ := and_e z35
  obtain ⟨x36, z37⟩ := and_e z36
  obtain ⟨x37, z38⟩ := and_e z37
  obtain ⟨x38, z39⟩ := and_e z38
  obtain ⟨x39, z40⟩ := and_e z39
  obtain ⟨x40, z41⟩ := and_e z40
  have x41 := z41
  obtain ⟨s0, S0⟩ : ∃ a, Est s s.heap "AWAITING_AUTHORISATION" 0 66 a := Est.start (t2 hw) (t3 hw) x0 x2 x6 x7 x8 x9 x10
  obtain ⟨s1, S1⟩ : ∃ a, Est s s.heap "AUTHORISED" 1 89 a := Est.start (t2 hw) (t46 hw) x21 x22 x23 x24 x25 x26 x27
  obtain ⟨s2, S2⟩ : ∃ a, Est s s.heap "USED" 2 75 a := Est.start (t2 hw) (t10 hw) x1 x3 x16 x17 x18 x19 x20
  obtain ⟨s3, S3⟩ : ∃ a, Est s s.heap "ORDERED" 3 69 a := Est.start (t2 hw) (t12 hw) x4 x5 x11 x12 x13 x14 x15
  obtain ⟨s4, S4⟩ : ∃ a, Est s s.heap "ENDED" 4 83 a := Est.start (t2 hw) (t50 hw) x35 x36 x37 x38 x39 x40 x41
  obtain ⟨s5, S5⟩ : ∃ a, Est s s.heap "CANCELLED" 5 73 a := Est.start (t2 hw) (t48 hw) x28 x29 x30 x31 x32 x33 x34
  obtain ⟨n, o, h1, h2, h3, _, L, rfl, ⟨rfl, N⟩, hq⟩ := con_law l s _ hw tables_1 i0 s0 s1 s2 s3 s4 s5 cs ncs SC S0 S1 S2 S3 S4 S5 (hcalls.1 _ (List.mem_of_getElem? (i := 0) rfl)) (hcalls.1 _ (List.mem_of_getElem? (i := 1) rfl)) (hsets _ (List.mem_of_getElem? (i := 2) rfl)) p e ha hc hk s m _ below hf ((Spec.applies_iff_loose hf).mp happ).1 ⟨rfl, rfl⟩ trivial
  refine ⟨n, _, h1, h2, h3, hpost _ _ _ _ _ _ ⟨Cond.after_iff.mpr rfl, Cond.after_iff.mpr (eq_i res_at (Term.int_eval (1)) rfl), trivial⟩ ⟨hq.1, hq.2.1, hq.2.2.1, (hq.2.2.2.sift fun y hy => Or.inr (N y hy)).mono (by decide) (by decide)⟩⟩
theorem main_1_1 : Claimed_1_1 := comes_1 fun _ _ _ _ _ _ h hF => ⟨h.1, hF⟩
theorem main_1_2 : Claimed_1_2 := comes_1 fun _ _ _ _ _ _ h hF => ⟨h.2.1, hF⟩
end Jvm.Pilot.@@N@@
namespace Jvm.Pilot.@@N@@
open Jvm Jvm.ClassFile Sem Op Lib Jvm.Free Jvm.Stand Jvm.Pilot.@@N@@.Jvm.D
/-! MADE BY PROGRAM (witnessworld.py) out of the Statement's table words and the real class files: 18 classes; the members and pool entries that the words name. The judged class is class 1, her method 1. -/
namespace start1
open Jvm.ClassFile
def u (s : String) : CpInfo := .utf8 (stringToUtf16 s)
/-- a pool by its gaps: so many unusable entries, then the entry; so many at the end -/
def gap : Nat → List CpInfo → List CpInfo
  | 0, r => r
  | n + 1, r => .unusable :: gap n r
def poolList (es : List (Nat × CpInfo)) (last : Nat) : List CpInfo := es.foldr (fun e r => gap e.1 (e.2 :: r)) (gap last [])
def pool (es : List (Nat × CpInfo)) (last : Nat) : Array CpInfo := ⟨poolList es last⟩
def fileOf (pool : Array CpInfo) (this : Nat) (attrs : Array Attribute := #[]) (ms : Array MethodInfo := #[]) (fl : Nat := 33) (sup : Nat := 0) (ifs : Array Nat := #[]) (fds : Array FieldInfo := #[]) : ClassFile where
  minorVersion := 0
  majorVersion := 65
  constantPool := pool
  accessFlags := fl
  thisClass := this
  superClass := sup
  interfaces := ifs
  fields := fds
  methods := ms
  attributes := attrs
def plain (name : String) (sup : Option ClassId) : Class where
  name := name
  kind := .ordinary
  loader := none
  accessFlags := 33
  super := sup
  interfaces := #[]
  cf := none
  fields := #[]
  methods := #[]
  instanceTypes := #[]
  staticTypes := #[]
  resolved := #[]
  callSites := []
  init := .initialized
  statics := none
  mirror := none

def pool0 : Array CpInfo := pool [(5, u "<init>"), (0, u "()V"), (1, .class_ 10), (1, u "java/lang/Object")] 113

def k0m0 : Method := { name := "<init>", desc := "()V", sig := { parameters := [], returnType := none }, accessFlags := 1, code := none }
/-- java/lang/Object -/
def k0 : Class := { plain "java/lang/Object" none with
  accessFlags := 33
  interfaces := #[]
  cf := some (fileOf pool0 8 #[] #[{ accessFlags := 1, nameIndex := 5, descriptorIndex := 6, attributes := #[] }] 33 0 #[] #[])
  fields := #[]
  methods := #[k0m0]
  instanceTypes := #[]
  staticTypes := #[]
  resolved := Array.replicate 124 none
  statics := none }

def pool1 : Array CpInfo := pool [(2, .class_ 4), (1, u "java/lang/Object"), (0, u "<init>"), (0, u "()V"), (0, .integer 2147483647), (0, .fieldref 9 10), (0, .class_ 11), (0, .nameAndType 12 13), (0, u "com/example/karekod/karekod/consent/ConsentState"), (0, u "AWAITING_AUTHORISATION"), (0, u "Lcom/example/karekod/karekod/consent/ConsentState;"), (0, .fieldref 9 15), (0, .nameAndType 16 13), (0, u "AUTHORISED"), (0, .fieldref 9 18), (0, .nameAndType 19 13), (0, u "USED"), (0, .fieldref 9 21), (0, .nameAndType 22 13), (0, u "ORDERED"), (0, .fieldref 9 24), (0, .nameAndType 25 13), (0, u "ENDED"), (0, .fieldref 9 27), (0, .nameAndType 28 13), (0, u "CANCELLED"), (0, .methodref 9 30), (0, .nameAndType 31 32), (0, u "tokensLive"), (0, u "()Z"), (0, .methodref 9 34), (0, .nameAndType 35 36), (0, u "code"), (0, u "()Ljava/lang/String;"), (0, .string 38), (0, u "K"), (0, .methodref 40 41), (0, .class_ 42), (0, .nameAndType 43 44), (0, u "java/lang/String"), (0, u "equals"), (0, u "(Ljava/lang/Object;)Z"), (0, .string 46), (0, u "E"), (0, .class_ 48), (0, u "com/example/karekod/karekod/consent/ConsentStateTokensLivePinLaw"), (2, u "law"), (0, u "(I)Z")] 3

def k1m0 : Method := { name := "<init>", desc := "()V", sig := { parameters := [], returnType := none }, accessFlags := 1, code := none }
def k1c1 : Code := { maxStack := 2, maxLocals := 7, code := code, exceptionTable := #[], attributes := #[] }
def k1m1 : Method := { name := "law", desc := "(I)Z", sig := { parameters := [.int], returnType := some .boolean }, accessFlags := 9, code := some k1c1 }
/-- com/example/karekod/karekod/consent/ConsentStateTokensLivePinLaw -/
def k1 : Class := { plain "com/example/karekod/karekod/consent/ConsentStateTokensLivePinLaw" (some 0) with
  accessFlags := 49
  interfaces := #[]
  cf := some (fileOf pool1 47 #[] #[{ accessFlags := 1, nameIndex := 5, descriptorIndex := 6, attributes := #[] }, { accessFlags := 9, nameIndex := 51, descriptorIndex := 52, attributes := #[] }] 49 2 #[] #[])
  fields := #[]
  methods := #[k1m0, k1m1]
  instanceTypes := #[]
  staticTypes := #[]
  resolved := Array.replicate 56 none
  statics := none }

def pool2 : Array CpInfo := pool [(1, .class_ 2), (0, u "java/lang/constant/Constable"), (0, .class_ 4), (0, u "java/lang/Object")] 6

/-- java/lang/constant/Constable -/
def k2 : Class := { plain "java/lang/constant/Constable" (some 0) with
  accessFlags := 1537
  interfaces := #[]
  cf := some (fileOf pool2 1 #[] #[] 1537 3 #[] #[])
  fields := #[]
  methods := #[]
  instanceTypes := #[]
  staticTypes := #[]
  resolved := Array.replicate 11 none
  statics := none }

def pool3 : Array CpInfo := pool [(1, .class_ 2), (0, u "java/lang/Comparable"), (0, .class_ 4), (0, u "java/lang/Object")] 7

/-- java/lang/Comparable -/
def k3 : Class := { plain "java/lang/Comparable" (some 0) with
  accessFlags := 1537
  interfaces := #[]
  cf := some (fileOf pool3 1 #[] #[] 1537 3 #[] #[])
  fields := #[]
  methods := #[]
  instanceTypes := #[]
  staticTypes := #[]
  resolved := Array.replicate 12 none
  statics := none }

def pool4 : Array CpInfo := pool [(1, .class_ 2), (0, u "java/io/Serializable"), (0, .class_ 4), (0, u "java/lang/Object")] 2

/-- java/io/Serializable -/
def k4 : Class := { plain "java/io/Serializable" (some 0) with
  accessFlags := 1537
  interfaces := #[]
  cf := some (fileOf pool4 1 #[] #[] 1537 3 #[] #[])
  fields := #[]
  methods := #[]
  instanceTypes := #[]
  staticTypes := #[]
  resolved := Array.replicate 7 none
  statics := none }

def pool5 : Array CpInfo := pool [(2, .class_ 4), (1, u "java/lang/Enum"), (0, u "name"), (0, u "Ljava/lang/String;"), (2, u "ordinal"), (0, u "I"), (1, .class_ 14), (1, u "java/lang/Object"), (4, u "hash"), (86, .class_ 108), (1, u "java/lang/Enum$EnumDesc"), (2, .class_ 112), (0, u "java/lang/constant/Constable"), (0, .class_ 114), (0, u "java/lang/Comparable"), (0, .class_ 116), (0, u "java/io/Serializable")] 87

/-- java/lang/Enum -/
def k5 : Class := { plain "java/lang/Enum" (some 0) with
  accessFlags := 1057
  interfaces := #[2, 3, 4]
  cf := some (fileOf pool5 2 #[.nestMembers #[106]] #[] 1057 12 #[111, 113, 115] #[{ accessFlags := 18, nameIndex := 5, descriptorIndex := 6, attributes := #[] }, { accessFlags := 18, nameIndex := 9, descriptorIndex := 10, attributes := #[] }, { accessFlags := 2, nameIndex := 19, descriptorIndex := 10, attributes := #[] }])
  fields := #[{ name := "name", type := (.object "java/lang/String"), accessFlags := 18, slot := 0, constantValue := 0 }, { name := "ordinal", type := .int, accessFlags := 18, slot := 1, constantValue := 0 }, { name := "hash", type := .int, accessFlags := 2, slot := 2, constantValue := 0 }]
  methods := #[]
  instanceTypes := #[(.object "java/lang/String"), .int, .int]
  staticTypes := #[]
  resolved := Array.replicate 204 none
  statics := none }

def pool6 : Array CpInfo := pool [(1, .class_ 2), (0, u "com/example/karekod/karekod/consent/ConsentState"), (2, u "AWAITING_AUTHORISATION"), (0, u "Lcom/example/karekod/karekod/consent/ConsentState;"), (2, u "AUTHORISED"), (0, .fieldref 1 11), (0, .nameAndType 12 6), (0, u "USED"), (0, .fieldref 1 14), (0, .nameAndType 15 6), (0, u "ORDERED"), (2, u "ENDED"), (2, u "CANCELLED"), (2, u "$VALUES"), (0, u "[Lcom/example/karekod/karekod/consent/ConsentState;"), (6, .class_ 34), (1, u "java/lang/Enum"), (6, .fieldref 1 42), (0, .nameAndType 43 44), (0, u "code"), (0, u "Ljava/lang/String;"), (40, u "()Ljava/lang/String;"), (2, u "tokensLive"), (0, u "()Z")] 6

def k6c0 : Code := { maxStack := 1, maxLocals := 1, code := prog_11_method_4_code, exceptionTable := #[], attributes := #[] }
def k6m0 : Method := { name := "code", desc := "()Ljava/lang/String;", sig := { parameters := [], returnType := some (.object "java/lang/String") }, accessFlags := 1, code := some k6c0 }
def k6c1 : Code := { maxStack := 2, maxLocals := 1, code := prog_11_method_6_code, exceptionTable := #[], attributes := #[] }
def k6m1 : Method := { name := "tokensLive", desc := "()Z", sig := { parameters := [], returnType := some .boolean }, accessFlags := 1, code := some k6c1 }
/-- com/example/karekod/karekod/consent/ConsentState -/
def k6 : Class := { plain "com/example/karekod/karekod/consent/ConsentState" (some 5) with
  accessFlags := 16433
  interfaces := #[]
  cf := some (fileOf pool6 1 #[] #[{ accessFlags := 1, nameIndex := 43, descriptorIndex := 85, attributes := #[] }, { accessFlags := 1, nameIndex := 88, descriptorIndex := 89, attributes := #[] }] 16433 32 #[] #[{ accessFlags := 16409, nameIndex := 5, descriptorIndex := 6, attributes := #[] }, { accessFlags := 16409, nameIndex := 9, descriptorIndex := 6, attributes := #[] }, { accessFlags := 16409, nameIndex := 12, descriptorIndex := 6, attributes := #[] }, { accessFlags := 16409, nameIndex := 15, descriptorIndex := 6, attributes := #[] }, { accessFlags := 16409, nameIndex := 18, descriptorIndex := 6, attributes := #[] }, { accessFlags := 16409, nameIndex := 21, descriptorIndex := 6, attributes := #[] }, { accessFlags := 18, nameIndex := 43, descriptorIndex := 44, attributes := #[] }, { accessFlags := 4122, nameIndex := 24, descriptorIndex := 25, attributes := #[] }])
  fields := #[{ name := "AWAITING_AUTHORISATION", type := (.object "com/example/karekod/karekod/consent/ConsentState"), accessFlags := 16409, slot := 0, constantValue := 0 }, { name := "AUTHORISED", type := (.object "com/example/karekod/karekod/consent/ConsentState"), accessFlags := 16409, slot := 1, constantValue := 0 }, { name := "USED", type := (.object "com/example/karekod/karekod/consent/ConsentState"), accessFlags := 16409, slot := 2, constantValue := 0 }, { name := "ORDERED", type := (.object "com/example/karekod/karekod/consent/ConsentState"), accessFlags := 16409, slot := 3, constantValue := 0 }, { name := "ENDED", type := (.object "com/example/karekod/karekod/consent/ConsentState"), accessFlags := 16409, slot := 4, constantValue := 0 }, { name := "CANCELLED", type := (.object "com/example/karekod/karekod/consent/ConsentState"), accessFlags := 16409, slot := 5, constantValue := 0 }, { name := "code", type := (.object "java/lang/String"), accessFlags := 18, slot := 3, constantValue := 0 }, { name := "$VALUES", type := (.array (.object "com/example/karekod/karekod/consent/ConsentState")), accessFlags := 4122, slot := 6, constantValue := 0 }]
  methods := #[k6m0, k6m1]
  instanceTypes := #[(.object "java/lang/String"), .int, .int, (.object "java/lang/String")]
  staticTypes := #[(.object "com/example/karekod/karekod/consent/ConsentState"), (.object "com/example/karekod/karekod/consent/ConsentState"), (.object "com/example/karekod/karekod/consent/ConsentState"), (.object "com/example/karekod/karekod/consent/ConsentState"), (.object "com/example/karekod/karekod/consent/ConsentState"), (.object "com/example/karekod/karekod/consent/ConsentState"), (.array (.object "com/example/karekod/karekod/consent/ConsentState"))]
  resolved := Array.replicate 96 none
  statics := some 0 }

def pool7 : Array CpInfo := pool [(2, .class_ 4), (1, u "java/lang/CharSequence"), (42, .class_ 48), (0, u "java/lang/CharSequence$1CodePointIterator"), (10, .class_ 60), (0, u "java/lang/CharSequence$1CharIterator"), (5, .class_ 67), (0, u "java/lang/Object")] 63

/-- java/lang/CharSequence -/
def k7 : Class := { plain "java/lang/CharSequence" (some 0) with
  accessFlags := 1537
  interfaces := #[]
  cf := some (fileOf pool7 2 #[.nestMembers #[47, 59]] #[] 1537 66 #[] #[])
  fields := #[]
  methods := #[]
  instanceTypes := #[]
  staticTypes := #[]
  resolved := Array.replicate 131 none
  statics := none }

def pool8 : Array CpInfo := pool [(1, .class_ 2), (0, u "java/lang/constant/ConstantDesc"), (0, .class_ 4), (0, u "java/lang/Object")] 32

/-- java/lang/constant/ConstantDesc -/
def k8 : Class := { plain "java/lang/constant/ConstantDesc" (some 0) with
  accessFlags := 1537
  interfaces := #[]
  cf := some (fileOf pool8 1 #[] #[] 1537 3 #[] #[])
  fields := #[]
  methods := #[]
  instanceTypes := #[]
  staticTypes := #[]
  resolved := Array.replicate 37 none
  statics := none }

def pool9 : Array CpInfo := pool [(2, .class_ 4), (1, u "java/lang/Object"), (0, u "<init>"), (0, u "()V"), (2, .fieldref 10 11), (0, .class_ 12), (0, .nameAndType 13 14), (0, u "java/lang/String"), (0, u "value"), (0, u "[B"), (0, .fieldref 10 16), (0, .nameAndType 17 18), (0, u "coder"), (0, u "B"), (2, u "hash"), (0, u "I"), (2, u "hashIsZero"), (0, u "Z"), (11, .fieldref 10 39), (0, .nameAndType 40 26), (0, u "COMPACT_STRINGS"), (66, .class_ 109), (1, u "java/lang/StringLatin1"), (431, .methodref 107 542), (0, .nameAndType 543 544), (0, u "equals"), (0, u "([B[B)Z"), (28, u "(Ljava/lang/Object;)Z"), (1, .class_ 576), (0, u "java/lang/CharSequence"), (22, u "CASE_INSENSITIVE_ORDER"), (0, u "Ljava/util/Comparator;"), (500, u "serialPersistentFields"), (0, u "[Ljava/io/ObjectStreamField;"), (0, .class_ 1104), (0, u "java/lang/String$CaseInsensitiveComparator"), (1, .class_ 1107), (0, u "java/io/Serializable"), (0, .class_ 1109), (0, u "java/lang/Comparable"), (0, .class_ 1111), (0, u "java/lang/constant/Constable"), (0, .class_ 1113), (0, u "java/lang/constant/ConstantDesc"), (2, u "serialVersionUID"), (0, u "J"), (3, u "REPL"), (0, u "C"), (2, u "LATIN1"), (1, u "UTF16")] 323

def k9m0 : Method := { name := "<init>", desc := "()V", sig := { parameters := [], returnType := none }, accessFlags := 1, code := none }
def k9c1 : Code := { maxStack := 2, maxLocals := 3, code := jdk_42_method_66_code, exceptionTable := #[], attributes := #[] }
def k9m1 : Method := { name := "equals", desc := "(Ljava/lang/Object;)Z", sig := { parameters := [(.object "java/lang/Object")], returnType := some .boolean }, accessFlags := 1, code := some k9c1 }
/-- java/lang/String -/
def k9 : Class := { plain "java/lang/String" (some 0) with
  accessFlags := 49
  interfaces := #[4, 3, 7, 2, 8]
  cf := some (fileOf pool9 10 #[.nestMembers #[1103]] #[{ accessFlags := 1, nameIndex := 5, descriptorIndex := 6, attributes := #[] }, { accessFlags := 1, nameIndex := 543, descriptorIndex := 573, attributes := #[] }] 49 2 #[1106, 1108, 575, 1110, 1112] #[{ accessFlags := 18, nameIndex := 13, descriptorIndex := 14, attributes := #[] }, { accessFlags := 18, nameIndex := 17, descriptorIndex := 18, attributes := #[] }, { accessFlags := 2, nameIndex := 21, descriptorIndex := 22, attributes := #[] }, { accessFlags := 2, nameIndex := 25, descriptorIndex := 26, attributes := #[] }, { accessFlags := 26, nameIndex := 1116, descriptorIndex := 1117, attributes := #[] }, { accessFlags := 24, nameIndex := 40, descriptorIndex := 26, attributes := #[] }, { accessFlags := 26, nameIndex := 1101, descriptorIndex := 1102, attributes := #[] }, { accessFlags := 26, nameIndex := 1121, descriptorIndex := 1122, attributes := #[] }, { accessFlags := 25, nameIndex := 599, descriptorIndex := 600, attributes := #[] }, { accessFlags := 24, nameIndex := 1125, descriptorIndex := 18, attributes := #[] }, { accessFlags := 24, nameIndex := 1127, descriptorIndex := 18, attributes := #[] }])
  fields := #[{ name := "value", type := (.array .byte), accessFlags := 18, slot := 0, constantValue := 0 }, { name := "coder", type := .byte, accessFlags := 18, slot := 1, constantValue := 0 }, { name := "hash", type := .int, accessFlags := 2, slot := 2, constantValue := 0 }, { name := "hashIsZero", type := .boolean, accessFlags := 2, slot := 3, constantValue := 0 }, { name := "serialVersionUID", type := .long, accessFlags := 26, slot := 0, constantValue := 0 }, { name := "COMPACT_STRINGS", type := .boolean, accessFlags := 24, slot := 1, constantValue := 0 }, { name := "serialPersistentFields", type := (.array (.object "java/io/ObjectStreamField")), accessFlags := 26, slot := 2, constantValue := 0 }, { name := "REPL", type := .char, accessFlags := 26, slot := 3, constantValue := 0 }, { name := "CASE_INSENSITIVE_ORDER", type := (.object "java/util/Comparator"), accessFlags := 25, slot := 4, constantValue := 0 }, { name := "LATIN1", type := .byte, accessFlags := 24, slot := 5, constantValue := 0 }, { name := "UTF16", type := .byte, accessFlags := 24, slot := 6, constantValue := 0 }]
  methods := #[k9m0, k9m1]
  instanceTypes := #[(.array .byte), .byte, .int, .boolean]
  staticTypes := #[.long, .boolean, (.array (.object "java/io/ObjectStreamField")), .char, (.object "java/util/Comparator"), .byte, .byte]
  resolved := Array.replicate 1451 none
  statics := some 1 }

def pool10 : Array CpInfo := pool [(4, .class_ 6), (1, u "java/lang/Object"), (0, u "<init>"), (0, u "()V"), (5, .class_ 16), (1, u "java/lang/StringLatin1"), (104, u "$assertionsDisabled"), (0, u "Z"), (98, .class_ 223), (1, u "java/lang/StringLatin1$LinesSpliterator"), (57, u "equals"), (0, u "([B[B)Z"), (107, .class_ 391), (0, u "java/lang/StringLatin1$CharsSpliterator")] 3

def k10m0 : Method := { name := "<init>", desc := "()V", sig := { parameters := [], returnType := none }, accessFlags := 0, code := none }
def k10c1 : Code := { maxStack := 3, maxLocals := 3, code := jdk_43_method_13_code, exceptionTable := #[], attributes := #[] }
def k10m1 : Method := { name := "equals", desc := "([B[B)Z", sig := { parameters := [(.array .byte), (.array .byte)], returnType := some .boolean }, accessFlags := 9, code := some k10c1 }
/-- java/lang/StringLatin1 -/
def k10 : Class := { plain "java/lang/StringLatin1" (some 0) with
  accessFlags := 48
  interfaces := #[]
  cf := some (fileOf pool10 14 #[.nestMembers #[390, 221]] #[{ accessFlags := 0, nameIndex := 7, descriptorIndex := 8, attributes := #[] }, { accessFlags := 9, nameIndex := 281, descriptorIndex := 282, attributes := #[] }] 48 4 #[] #[{ accessFlags := 4120, nameIndex := 121, descriptorIndex := 122, attributes := #[] }])
  fields := #[{ name := "$assertionsDisabled", type := .boolean, accessFlags := 4120, slot := 0, constantValue := 0 }]
  methods := #[k10m0, k10m1]
  instanceTypes := #[]
  staticTypes := #[.boolean]
  resolved := Array.replicate 395 none
  statics := none }

def pool11 : Array CpInfo := pool [(2, .class_ 4), (1, u "java/lang/Object"), (0, u "<init>"), (0, u "()V"), (17, .class_ 26), (1, u "jdk/internal/util/Preconditions"), (28, .class_ 56), (0, u "jdk/internal/util/Preconditions$4"), (57, .class_ 115), (0, u "jdk/internal/util/Preconditions$1"), (7, u "SIOOBE_FORMATTER"), (0, u "Ljava/util/function/BiFunction;"), (0, .class_ 126), (0, u "jdk/internal/util/Preconditions$2"), (3, u "AIOOBE_FORMATTER"), (0, .class_ 132), (0, u "jdk/internal/util/Preconditions$3"), (3, u "IOOBE_FORMATTER")] 57

def k11m0 : Method := { name := "<init>", desc := "()V", sig := { parameters := [], returnType := none }, accessFlags := 1, code := none }
/-- jdk/internal/util/Preconditions -/
def k11 : Class := { plain "jdk/internal/util/Preconditions" (some 0) with
  accessFlags := 33
  interfaces := #[]
  cf := some (fileOf pool11 24 #[.nestMembers #[55, 131, 125, 114]] #[{ accessFlags := 1, nameIndex := 5, descriptorIndex := 6, attributes := #[] }] 33 2 #[] #[{ accessFlags := 25, nameIndex := 123, descriptorIndex := 124, attributes := #[] }, { accessFlags := 25, nameIndex := 130, descriptorIndex := 124, attributes := #[] }, { accessFlags := 25, nameIndex := 136, descriptorIndex := 124, attributes := #[] }])
  fields := #[{ name := "SIOOBE_FORMATTER", type := (.object "java/util/function/BiFunction"), accessFlags := 25, slot := 0, constantValue := 0 }, { name := "AIOOBE_FORMATTER", type := (.object "java/util/function/BiFunction"), accessFlags := 25, slot := 1, constantValue := 0 }, { name := "IOOBE_FORMATTER", type := (.object "java/util/function/BiFunction"), accessFlags := 25, slot := 2, constantValue := 0 }]
  methods := #[k11m0]
  instanceTypes := #[]
  staticTypes := #[(.object "java/util/function/BiFunction"), (.object "java/util/function/BiFunction"), (.object "java/util/function/BiFunction")]
  resolved := Array.replicate 194 none
  statics := some 2 }

def pool12 : Array CpInfo := pool [(9, u "<init>"), (6, .class_ 18), (1, u "java/lang/Object"), (0, u "()V"), (1, .class_ 23), (1, u "jdk/internal/util/ArraysSupport"), (0, u "LOG2_ARRAY_LONG_INDEX_SCALE"), (0, u "I"), (2, u "U"), (0, u "Ljdk/internal/misc/Unsafe;"), (8, u "BIG_ENDIAN"), (0, u "Z"), (8, u "LOG2_BYTE_BIT_SIZE"), (4, u "LOG2_ARRAY_INT_INDEX_SCALE"), (54, u "JLA"), (0, u "Ljdk/internal/access/JavaLangAccess;"), (11, u "LOG2_ARRAY_BOOLEAN_INDEX_SCALE"), (9, u "LOG2_ARRAY_BYTE_INDEX_SCALE"), (5, u "LOG2_ARRAY_CHAR_INDEX_SCALE"), (5, u "LOG2_ARRAY_SHORT_INDEX_SCALE"), (18, u "LOG2_ARRAY_FLOAT_INDEX_SCALE"), (24, u "LOG2_ARRAY_DOUBLE_INDEX_SCALE"), (89, u "T_BOOLEAN"), (2, u "T_CHAR"), (1, u "T_FLOAT"), (1, u "T_DOUBLE"), (1, u "T_BYTE"), (1, u "T_SHORT"), (1, u "T_INT"), (1, u "T_LONG"), (1, u "SOFT_MAX_ARRAY_LENGTH")] 83

def k12m0 : Method := { name := "<init>", desc := "()V", sig := { parameters := [], returnType := none }, accessFlags := 2, code := none }
/-- jdk/internal/util/ArraysSupport -/
def k12 : Class := { plain "jdk/internal/util/ArraysSupport" (some 0) with
  accessFlags := 33
  interfaces := #[]
  cf := some (fileOf pool12 21 #[] #[{ accessFlags := 2, nameIndex := 9, descriptorIndex := 19, attributes := #[] }] 33 16 #[] #[{ accessFlags := 24, nameIndex := 28, descriptorIndex := 29, attributes := #[] }, { accessFlags := 26, nameIndex := 38, descriptorIndex := 39, attributes := #[] }, { accessFlags := 25, nameIndex := 121, descriptorIndex := 25, attributes := #[] }, { accessFlags := 25, nameIndex := 131, descriptorIndex := 25, attributes := #[] }, { accessFlags := 25, nameIndex := 137, descriptorIndex := 25, attributes := #[] }, { accessFlags := 25, nameIndex := 143, descriptorIndex := 25, attributes := #[] }, { accessFlags := 25, nameIndex := 53, descriptorIndex := 25, attributes := #[] }, { accessFlags := 25, nameIndex := 24, descriptorIndex := 25, attributes := #[] }, { accessFlags := 25, nameIndex := 162, descriptorIndex := 25, attributes := #[] }, { accessFlags := 25, nameIndex := 187, descriptorIndex := 25, attributes := #[] }, { accessFlags := 26, nameIndex := 48, descriptorIndex := 25, attributes := #[] }, { accessFlags := 25, nameIndex := 277, descriptorIndex := 25, attributes := #[] }, { accessFlags := 25, nameIndex := 280, descriptorIndex := 25, attributes := #[] }, { accessFlags := 25, nameIndex := 282, descriptorIndex := 25, attributes := #[] }, { accessFlags := 25, nameIndex := 284, descriptorIndex := 25, attributes := #[] }, { accessFlags := 25, nameIndex := 286, descriptorIndex := 25, attributes := #[] }, { accessFlags := 25, nameIndex := 288, descriptorIndex := 25, attributes := #[] }, { accessFlags := 25, nameIndex := 290, descriptorIndex := 25, attributes := #[] }, { accessFlags := 25, nameIndex := 292, descriptorIndex := 25, attributes := #[] }, { accessFlags := 26, nameIndex := 108, descriptorIndex := 109, attributes := #[] }, { accessFlags := 25, nameIndex := 294, descriptorIndex := 25, attributes := #[] }])
  fields := #[{ name := "U", type := (.object "jdk/internal/misc/Unsafe"), accessFlags := 24, slot := 0, constantValue := 0 }, { name := "BIG_ENDIAN", type := .boolean, accessFlags := 26, slot := 1, constantValue := 0 }, { name := "LOG2_ARRAY_BOOLEAN_INDEX_SCALE", type := .int, accessFlags := 25, slot := 2, constantValue := 0 }, { name := "LOG2_ARRAY_BYTE_INDEX_SCALE", type := .int, accessFlags := 25, slot := 3, constantValue := 0 }, { name := "LOG2_ARRAY_CHAR_INDEX_SCALE", type := .int, accessFlags := 25, slot := 4, constantValue := 0 }, { name := "LOG2_ARRAY_SHORT_INDEX_SCALE", type := .int, accessFlags := 25, slot := 5, constantValue := 0 }, { name := "LOG2_ARRAY_INT_INDEX_SCALE", type := .int, accessFlags := 25, slot := 6, constantValue := 0 }, { name := "LOG2_ARRAY_LONG_INDEX_SCALE", type := .int, accessFlags := 25, slot := 7, constantValue := 0 }, { name := "LOG2_ARRAY_FLOAT_INDEX_SCALE", type := .int, accessFlags := 25, slot := 8, constantValue := 0 }, { name := "LOG2_ARRAY_DOUBLE_INDEX_SCALE", type := .int, accessFlags := 25, slot := 9, constantValue := 0 }, { name := "LOG2_BYTE_BIT_SIZE", type := .int, accessFlags := 26, slot := 10, constantValue := 0 }, { name := "T_BOOLEAN", type := .int, accessFlags := 25, slot := 11, constantValue := 0 }, { name := "T_CHAR", type := .int, accessFlags := 25, slot := 12, constantValue := 0 }, { name := "T_FLOAT", type := .int, accessFlags := 25, slot := 13, constantValue := 0 }, { name := "T_DOUBLE", type := .int, accessFlags := 25, slot := 14, constantValue := 0 }, { name := "T_BYTE", type := .int, accessFlags := 25, slot := 15, constantValue := 0 }, { name := "T_SHORT", type := .int, accessFlags := 25, slot := 16, constantValue := 0 }, { name := "T_INT", type := .int, accessFlags := 25, slot := 17, constantValue := 0 }, { name := "T_LONG", type := .int, accessFlags := 25, slot := 18, constantValue := 0 }, { name := "JLA", type := (.object "jdk/internal/access/JavaLangAccess"), accessFlags := 26, slot := 19, constantValue := 0 }, { name := "SOFT_MAX_ARRAY_LENGTH", type := .int, accessFlags := 25, slot := 20, constantValue := 0 }]
  methods := #[k12m0]
  instanceTypes := #[]
  staticTypes := #[(.object "jdk/internal/misc/Unsafe"), .boolean, .int, .int, .int, .int, .int, .int, .int, .int, .int, .int, .int, .int, .int, .int, .int, .int, .int, (.object "jdk/internal/access/JavaLangAccess"), .int]
  resolved := Array.replicate 378 none
  statics := none }

def pool13 : Array CpInfo := pool [(1, u "java/lang/Cloneable"), (0, .class_ 1), (0, u "java/lang/Object"), (0, .class_ 3)] 3

/-- java/lang/Cloneable -/
def k13 : Class := { plain "java/lang/Cloneable" (some 0) with
  accessFlags := 1537
  interfaces := #[]
  cf := some (fileOf pool13 2 #[] #[] 1537 4 #[] #[])
  fields := #[]
  methods := #[]
  instanceTypes := #[]
  staticTypes := #[]
  resolved := Array.replicate 8 none
  statics := none }

/-- the primitive byte -/
def k14 : Class := { plain "byte" none with kind := .primitive 'B', accessFlags := 0x411 }
/-- [B -/
def k15 : Class := { plain "[B" (some 0) with kind := .array 14 .byte, interfaces := #[13, 4], accessFlags := 1041 }

/-- the primitive int -/
def k16 : Class := { plain "int" none with kind := .primitive 'I', accessFlags := 0x411 }
/-- [I -/
def k17 : Class := { plain "[I" (some 0) with kind := .array 16 .int, interfaces := #[13, 4], accessFlags := 1041 }

def heap : Heap := #[{ cls := 6, slots := #[.ref 15, .ref 16, .ref 17, .ref 18, .ref 19, .ref 20, .null], vm := .statics 6 },
  { cls := 9, slots := #[.long 0, .int 1, .null, .int 0, .null, .int 0, .int 0], vm := .statics 9 },
  { cls := 11, slots := #[.null, .null, .null], vm := .statics 11 },
  { cls := 15, slots := #[.int 66], vm := .none },
  { cls := 15, slots := #[.int 89], vm := .none },
  { cls := 15, slots := #[.int 75], vm := .none },
  { cls := 15, slots := #[.int 69], vm := .none },
  { cls := 15, slots := #[.int 83], vm := .none },
  { cls := 15, slots := #[.int 73], vm := .none },
  { cls := 9, slots := #[.ref 3, .int 0, .int 0, .int 0], vm := .none },
  { cls := 9, slots := #[.ref 4, .int 0, .int 0, .int 0], vm := .none },
  { cls := 9, slots := #[.ref 5, .int 0, .int 0, .int 0], vm := .none },
  { cls := 9, slots := #[.ref 6, .int 0, .int 0, .int 0], vm := .none },
  { cls := 9, slots := #[.ref 7, .int 0, .int 0, .int 0], vm := .none },
  { cls := 9, slots := #[.ref 8, .int 0, .int 0, .int 0], vm := .none },
  { cls := 6, slots := #[.null, .int 0, .int 0, .ref 9], vm := .none },
  { cls := 6, slots := #[.null, .int 1, .int 0, .ref 10], vm := .none },
  { cls := 6, slots := #[.null, .int 2, .int 0, .ref 11], vm := .none },
  { cls := 6, slots := #[.null, .int 3, .int 0, .ref 12], vm := .none },
  { cls := 6, slots := #[.null, .int 4, .int 0, .ref 13], vm := .none },
  { cls := 6, slots := #[.null, .int 5, .int 0, .ref 14], vm := .none }]
def classes : Array Class := #[k0, k1, k2, k3, k4, k5, k6, k7, k8, k9, k10, k11, k12, k13, k14, k15, k16, k17]
def interned : List (Array UInt16 × Addr) := []
def slotsUsed : Nat := 71
def theMethod : MethodId := ⟨1, 1⟩
def args0 : Array Value := #[.int 2]
def aboutOver (below : List Frame) : State where
  vm := { classes := classes, interned := interned.toArray }
  heap := heap
  slotsUsed := slotsUsed
  threads := #[{ frames := .invoking theMethod args0 :: below }]
def below0 : List Frame := [.native { method := ⟨0, 0⟩, args := #[] }]
def about1 : State := aboutOver below0
def p0 : Program := .bare "" "" ""
def e0 : Env := launch0.env 0 0 0
theorem w_frames : about1.frames = Frame.invoking theMethod args0 :: below0 := rfl
set_option maxRecDepth 65536 in
theorem w_args : argsFit about1.vm theMethod args0 = true := by decide +kernel
set_option maxRecDepth 65536 in
theorem w_heap : heapFits about1 = true := by decide +kernel
set_option maxRecDepth 65536 in
theorem w_runnable : about1.curStatus? = some .runnable := by decide +kernel
set_option maxRecDepth 65536 in
theorem w_alone : about1.alone = true := by decide +kernel
set_option maxRecDepth 65536 in
theorem w_named : about1.methodNamed? x = some theMethod := by decide +kernel
set_option maxRecDepth 65536 in
theorem w_hears : about1.hears theMethod below0 = true := by decide +kernel
set_option maxRecDepth 65536 in
theorem w_ripe : about1.ripe theMethod args0 below0 = true := by decide +kernel
theorem w_running : about1.status = .running := rfl
set_option maxRecDepth 65536 in
theorem w_room : about1.hasRoom e0.platform room_1 = true :=
  launch0.hasRoom_least _ room_1 (by decide +kernel) (by decide +kernel) (by decide +kernel) (by decide +kernel) (by decide +kernel) (by decide +kernel)
theorem allAtoms_all (ts : List Jvm.Cond) (a : Array Jvm.Value) (st : Jvm.State) : (allAtoms ts).before a st = ts.all (fun c => c.before a st) := by
  induction ts with
  | nil => rfl
  | cons c t ih =>
    show (Jvm.Cond.and c (allAtoms t)).before a st = _
    rw [Jvm.Cond.before_and, ih, List.all_cons]
def words1 : List Jvm.Cond := Jvm.Cond.code x code maxLocals ret :: tables_1
/-- a 'code' word, met by the world's own term for the bytes: nothing is compared byte by byte -/
theorem code_word {y : MethodName} {bytes : ByteArray} {mx : Nat} {rt : Option FieldType} {a : Array Value} {s : State} {m : MethodId} {meth : Method} {c : Code} (h1 : s.methodNamed? y = some m) (h2 : s.vm.method? m = some meth) (h3 : meth.code = some c) (h4 : c.code = bytes)
    (h5 : (c.maxLocals == mx && c.exceptionTable.isEmpty && decide (c.maxStack ≤ mostOperands) && decide (meth.sig.returnType = rt) && !meth.locks && decide (parseMethodDescriptor y.desc = some meth.sig)) = true) : (Jvm.Cond.code y bytes mx rt).before a s = true := by
  simp only [Bool.and_eq_true, beq_iff_eq, Bool.not_eq_true', decide_eq_true_eq] at h5
  obtain ⟨⟨⟨⟨⟨g1, g2⟩, g3⟩, g4⟩, g5⟩, g6⟩ := h5
  simp [Cond.before, Cond.holds, Cond.value, h1, h2, h3, h4, g1, g2, g3, g4, g5, g6]
def isCode : Jvm.Cond → Bool
  | .code _ _ _ _ => true
  | _ => false
theorem all_split {L : List Jvm.Cond} {P : Jvm.Cond → Bool} (h1 : L.all (fun c => isCode c || P c) = true) (h2 : ∀ c ∈ L.filter isCode, P c = true) : L.all P = true := by
  refine List.all_eq_true.mpr fun c hc => ?_
  have h := List.all_eq_true.mp h1 c hc
  rcases Bool.eq_false_or_eq_true (isCode c) with hi | hi
  · exact h2 c (List.mem_filter.mpr ⟨hc, hi⟩)
  · simpa [hi] using h
set_option maxRecDepth 65536 in
theorem w_c0 : (Jvm.Cond.code x code maxLocals ret).before args0 about1 = true := code_word (m := ⟨1, 1⟩) (meth := k1m1) (c := k1c1) (by decide +kernel) rfl rfl rfl (by decide +kernel)
set_option maxRecDepth 65536 in
theorem w_c1 : (Jvm.Cond.code ({ cls := "com/example/karekod/karekod/consent/ConsentState", name := "tokensLive", desc := "()Z" } : Jvm.MethodName) prog_11_method_6_code (1 : Nat) (Option.some Jvm.ClassFile.FieldType.boolean)).before args0 about1 = true := code_word (m := ⟨6, 1⟩) (meth := k6m1) (c := k6c1) (by decide +kernel) rfl rfl rfl (by decide +kernel)
set_option maxRecDepth 65536 in
theorem w_c2 : (Jvm.Cond.code ({ cls := "com/example/karekod/karekod/consent/ConsentState", name := "code", desc := "()Ljava/lang/String;" } : Jvm.MethodName) prog_11_method_4_code (1 : Nat) (Option.some (Jvm.ClassFile.FieldType.object "java/lang/String"))).before args0 about1 = true := code_word (m := ⟨6, 0⟩) (meth := k6m0) (c := k6c0) (by decide +kernel) rfl rfl rfl (by decide +kernel)
set_option maxRecDepth 65536 in
theorem w_c3 : (Jvm.Cond.code ({ cls := "java/lang/String", name := "equals", desc := "(Ljava/lang/Object;)Z" } : Jvm.MethodName) jdk_42_method_66_code (3 : Nat) (Option.some Jvm.ClassFile.FieldType.boolean)).before args0 about1 = true := code_word (m := ⟨9, 1⟩) (meth := k9m1) (c := k9c1) (by decide +kernel) rfl rfl rfl (by decide +kernel)
set_option maxRecDepth 65536 in
theorem w_c4 : (Jvm.Cond.code ({ cls := "java/lang/StringLatin1", name := "equals", desc := "([B[B)Z" } : Jvm.MethodName) jdk_43_method_13_code (3 : Nat) (Option.some Jvm.ClassFile.FieldType.boolean)).before args0 about1 = true := code_word (m := ⟨10, 1⟩) (meth := k10m1) (c := k10c1) (by decide +kernel) rfl rfl rfl (by decide +kernel)
def codes1 : List Jvm.Cond := [Jvm.Cond.code x code maxLocals ret, Jvm.Cond.code ({ cls := "com/example/karekod/karekod/consent/ConsentState", name := "tokensLive", desc := "()Z" } : Jvm.MethodName) prog_11_method_6_code (1 : Nat) (Option.some Jvm.ClassFile.FieldType.boolean), Jvm.Cond.code ({ cls := "com/example/karekod/karekod/consent/ConsentState", name := "code", desc := "()Ljava/lang/String;" } : Jvm.MethodName) prog_11_method_4_code (1 : Nat) (Option.some (Jvm.ClassFile.FieldType.object "java/lang/String")), Jvm.Cond.code ({ cls := "java/lang/String", name := "equals", desc := "(Ljava/lang/Object;)Z" } : Jvm.MethodName) jdk_42_method_66_code (3 : Nat) (Option.some Jvm.ClassFile.FieldType.boolean), Jvm.Cond.code ({ cls := "java/lang/StringLatin1", name := "equals", desc := "([B[B)Z" } : Jvm.MethodName) jdk_43_method_13_code (3 : Nat) (Option.some Jvm.ClassFile.FieldType.boolean)]
set_option maxRecDepth 65536 in
theorem codes_eq : words1.filter isCode = codes1 := rfl
theorem w_codes : ∀ c ∈ words1.filter isCode, c.before args0 about1 = true := by
  rw [codes_eq]
  intro c hc
  simp only [codes1, List.mem_cons, List.not_mem_nil, or_false] at hc
  rcases hc with rfl | rfl | rfl | rfl | rfl
  · exact w_c0
  · exact w_c1
  · exact w_c2
  · exact w_c3
  · exact w_c4
set_option maxRecDepth 65536 in
theorem w_t1 : (words1.take 24).all (fun c => isCode c || c.before args0 about1) = true := by decide +kernel
set_option maxRecDepth 65536 in
theorem w_t2 : ((words1.drop 24).take 24).all (fun c => isCode c || c.before args0 about1) = true := by decide +kernel
set_option maxRecDepth 65536 in
theorem w_t3 : ((words1.drop 24).drop 24).all (fun c => isCode c || c.before args0 about1) = true := by decide +kernel
theorem w_tables : (allAtoms (Jvm.Cond.code x code maxLocals ret :: tables_1)).before args0 about1 = true := by
  rw [allAtoms_all]
  show words1.all (fun c => c.before args0 about1) = true
  refine all_split ?_ w_codes
  rw [← List.take_append_drop 24 words1, List.all_append, w_t1, ← List.take_append_drop 24 (words1.drop 24), List.all_append, w_t2, w_t3]
  rfl
set_option maxRecDepth 65536 in
theorem w_rest : rest_1_c.before args0 about1 = true := by decide +kernel
set_option maxRecDepth 65536 in
theorem w_case : (Jvm.Cond.and given_1 narrow_1).before args0 about1 = true := by decide +kernel
set_option maxRecDepth 65536 in
theorem w_consts : constsHeld consts_1 about1 := Jvm.Lit.constsHeldB_iff.mp (by decide +kernel)
theorem w_applies : (headSpec (Jvm.Cond.code x code maxLocals ret :: tables_1) room_1).applies x e0.platform about1 = true :=
  (Spec.applies_iff w_frames).mpr ⟨w_running, w_runnable, w_alone, w_named, w_hears, w_ripe, w_room, w_tables⟩
theorem atStart : AtStart classFile x code maxLocals ret World_1 tables_1 room_1 Calls_1 rest_1 Pre_1 launch0 p0 e0 about1 theMethod args0 below0 :=
  ⟨lists_1, trivial, launch0.admits_env _ _ _, launch0.least_env, fairChoices_fair.cas, fairChoices_fair.clock, w_frames, w_args, w_heap, w_applies, ⟨w_consts, trivial⟩, w_rest, w_case⟩
end start1
theorem witness_1 : WitnessClaimed_1 := ⟨start1.p0, start1.e0, start1.about1, start1.theMethod, start1.args0, start1.below0, start1.atStart⟩
end Jvm.Pilot.@@N@@
