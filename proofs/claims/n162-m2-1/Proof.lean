import JvmDerived
import JvmDerived.Pilot.@@N@@Statement
import JvmDerived.Pilot.@@N@@Code
set_option linter.unusedVariables false
set_option linter.unusedSimpArgs false
namespace Jvm.Pilot.@@N@@
open Jvm Jvm.ClassFile Sem Op Lib Jvm.Free Jvm.Stand Jvm.LawKit Jvm.RoadKit Bundle Jvm.Pilot.@@N@@.Jvm.D
/-! ## my own layer: a walk read forward (Wk), where it stands (Hr), what a body promises (Con) -/
/-- from the state a the walk ends, and G holds of its end -/
def Wk (tb : Tables) (e : Env) (below : List Frame) (G : State → Outcome → Prop) (a : State) : Prop := ∃ t o, Steps tb e below a t ∧ t.status = .running ∧ Ended t below o ∧ G t o
theorem Wk.go {tb : Tables} {e : Env} {below : List Frame} {G : State → Outcome → Prop} {a b : State} (f : ∀ t, Steps tb e below b t → Steps tb e below a t) (k : Wk tb e below G b) : Wk tb e below G a := by
  obtain ⟨t, o, q, r⟩ := k
  exact ⟨t, o, f t q, r⟩
/-- where a walk stands: the library's Stand, with all that a step asks; nothing below n0 was written -/
def Hr (p : Program) (l : Launch) (e : Env) (R : Room) (s : State) (m : MethodId) (args : Array Value) (below : List Frame) (meth : Method) (c : Code) (Z : State) (own : String) (bs : ByteArray) (ml n0 : Nat) (rt : Option FieldType) (T : State) (h : Heap) (cells slots : Nat) : Prop :=
  (∃ locs, Stand p l e R s m args below meth c T locs cells slots ∧ Fr n0 locs) ∧ p.tables.exec = Jvm.exec ∧ c.code = bs ∧ c.maxLocals = ml ∧ Z.Warmed39 s.vm ∧ s.vm.findClass own = some m.cls ∧ meth.sig.returnType = rt ∧ meth.locks = false ∧ T.heap = h
/-- the end that a contract speaks of -/
def Gl (s : State) (n0 : Nat) (Q : Option Value → Heap → Prop) (C N : Nat) (t : State) (o : Outcome) : Prop := ∃ v L, o = .returned v ∧ (Q v t.heap ∧ Fr n0 L) ∧ FrameEnd s o t L C N
/-- what a body promises: started with these arguments at this heap it returns, and Q holds of the value and the heap -/
abbrev Con (l : Launch) (y : MethodName) (bytes : ByteArray) (maxL : Nat) (rt : Option FieldType) (rm : Room) (ws : List Jvm.Cond) (Z : State) (as' : Array Value) (h0 : Heap) (n0 : Nat) (Q : Option Value → Heap → Prop) : Prop :=
  MetFree l y (head1 (Jvm.Cond.code y bytes maxL rt :: ws) rm) (fun a U => a = as' ∧ Z.Warmed39 U.vm ∧ U.heap = h0) (fun _ _ _ _ _ => True) (fun _ U o U' => ∃ v L, o = .returned v ∧ (Q v U'.heap ∧ Fr n0 L) ∧ FrameEnd U o U' L rm.cells rm.slots)
theorem Con.of {l : Launch} {y : MethodName} {bytes : ByteArray} {maxL : Nat} {rt : Option FieldType} {rm : Room} {ws : List Jvm.Cond} {Z : State} {as' : Array Value} {h0 : Heap} {n0 : Nat} {Q : Option Value → Heap → Prop} (hp : plainFor y = true)
    (body : ∀ p e s m below meth c T, Hr p l e rm s m as' below meth c Z y.cls bytes maxL n0 rt T h0 0 0 → meth.name = y.name → Wk p.tables e below (Gl s n0 Q rm.cells rm.slots) (T.setTop (entryFrame m as' maxL))) : Con l y bytes maxL rt rm ws Z as' h0 n0 Q := by
  refine MetFree.of_bodySF hp hisR ?_
  intro p e s m args below meth c s₁ Bd hml0 hP hK
  obtain ⟨rfl, hZ, hh⟩ := hP
  have e0 : s₁.heap = h0 := by rw [← hh, Bd.state]; rfl
  exact body p e s m below meth c s₁ ⟨⟨[], Stand.of_body Bd, Fr.nil n0⟩, Bd.exec, Bd.bytes, hml0, hZ, findClass_of_methodNamed Bd.named, Bd.returns, Bd.notSynchronized, e0⟩ (name_of_methodNamed Bd.named Bd.method).1
/-- an array and all that it holds -/
def Arl (Z : State) (h : Heap) (a : Addr) (ty : FieldType) (us : List Value) : Prop := ∃ cl : Cell, Arr Z h a cl ty ∧ cl.slots = us.toArray ∧ us.length < 2 ^ 31
section Layer
variable {p : Program} {l : Launch} {e : Env} {R : Room} {s : State} {m : MethodId} {args : Array Value} {below : List Frame} {meth : Method} {c : Code} {Z : State} {own : String} {bs : ByteArray} {ml n0 : Nat} {rt : Option FieldType} {T : State} {h h' : Heap} {cells slots : Nat} {G : State → Outcome → Prop} {pc : Nat} {Ls : Array Slot} {st : List Value} {a0 : Array Value}
theorem Arl.ext {a : Addr} {ty : FieldType} {us : List Value} (A : Arl Z h a ty us) (E : Ext h h') : Arl Z h' a ty us := by
  obtain ⟨cl, A, r⟩ := A; exact ⟨cl, A.ext E, r⟩
theorem Arl.lt {a : Addr} {ty : FieldType} {us : List Value} (A : Arl Z h a ty us) : a < h.size := by
  obtain ⟨cl, A, r⟩ := A; exact A.lt
theorem Arl.other {a b : Addr} {ty : FieldType} {us : List Value} {sl : Nat} {v : Value} (A : Arl Z h b ty us) (W : Wr h h' a sl v) (q : b ≠ a) : Arl Z h' b ty us := by
  obtain ⟨cl, A, r⟩ := A; exact ⟨cl, A.other W q, r⟩
theorem Arl.keep {a : Addr} {ty : FieldType} {us : List Value} {ws : List Addr} (A : Arl Z h a ty us) (K : Keep h h' ws) (q : a ∉ ws) : Arl Z h' a ty us := by
  obtain ⟨cl, A, r⟩ := A; exact ⟨cl, ⟨K.2.1 a cl A.1 q, A.2⟩, r⟩
theorem Arl.set {a : Addr} {ty : FieldType} {us : List Value} {i : Nat} {v : Value} (A : Arl Z h a ty us) (W : Wr h h' a i v) : Arl Z h' a ty (us.set i v) := by
  obtain ⟨cl, A, r1, r2⟩ := A
  refine ⟨cl.setSlot i v, A.same W, ?_, by simpa using r2⟩
  simp [Cell.setSlot, r1]
theorem Arl.len {a : Addr} {ty : FieldType} {us : List Value} (A : Arl Z h a ty us) : us.length < 2 ^ 31 := by
  obtain ⟨cl, A, r1, r2⟩ := A; exact r2
theorem Arl.ne {a b : Addr} {ty : FieldType} {us : List Value} {C : String} {k : Nat} (A : Arl Z h a ty us) (E : Exa Z h b C) (wi : (Cond.instantiable C k).before a0 Z = true) : a ≠ b := by
  obtain ⟨cl, A, r⟩ := A; exact (ne_arr E wi A).symm
theorem ix_in {j : Int32} {i n : Nat} (hj : j.toInt = i) (hi : i < n) : ¬ (j < 0 ∨ n ≤ j.toNatClampNeg) ∧ j.toNatClampNeg = i := by
  have q : j.toNatClampNeg = i := by simp [Int32.toNatClampNeg, hj]
  refine ⟨?_, q⟩
  rw [q, Int32.lt_iff_toInt_lt, hj]
  simp only [Int32.reduceToInt]
  omega
theorem len32 {n : Nat} (h : n < 2 ^ 31) : n.toInt32.toInt = n := len_toInt h
/-- the branch is taken -/
def cmpT : ClassFile.Cond → Int32 → Int32 → Prop
  | .eq, x, y => x = y
  | .ne, x, y => ¬ x = y
  | .lt, x, y => x < y
  | .ge, x, y => ¬ x < y
  | .gt, x, y => y < x
  | .le, x, y => ¬ y < x
/-- the branch is not taken -/
def cmpF : ClassFile.Cond → Int32 → Int32 → Prop
  | .eq, x, y => ¬ x = y
  | .ne, x, y => x = y
  | .lt, x, y => ¬ x < y
  | .ge, x, y => x < y
  | .gt, x, y => ¬ y < x
  | .le, x, y => y < x
theorem cmp_t {cd : ClassFile.Cond} {x y : Int32} (q : cmpT cd x y) : if_icmp.holds cd x y = true := by
  cases cd
  · exact (teq q).1
  · exact (feq q).2
  · exact (tlt q).1
  · exact (flt q).2.1
  · exact (tlt q).2.2.1
  · exact (flt q).2.2.2
theorem cmp_f {cd : ClassFile.Cond} {x y : Int32} (q : cmpF cd x y) : if_icmp.holds cd x y = false := by
  cases cd
  · exact (feq q).1
  · exact (teq q).2
  · exact (flt q).1
  · exact (tlt q).2.1
  · exact (flt q).2.2.1
  · exact (tlt q).2.2.2
theorem cmp_or (cd : ClassFile.Cond) (x y : Int32) : cmpT cd x y ∨ cmpF cd x y := by
  cases cd
  · exact Classical.em _
  · exact (Classical.em _).symm
  · exact Classical.em _
  · exact (Classical.em _).symm
  · exact Classical.em _
  · exact (Classical.em _).symm
/-- a step that only moves the frame -/
theorem Wk.pu (X : Hr p l e R s m args below meth c Z own bs ml n0 rt T h cells slots) {a b : State} (f : At T m c below → p.tables.exec = Jvm.exec → c.code = bs → ∀ t, Steps p.tables e below b t → Steps p.tables e below a t) (k : Wk p.tables e below G b) : Wk p.tables e below G a := by
  obtain ⟨⟨locs, Y, N⟩, hx, hc, -⟩ := X
  exact Wk.go (f Y.here hx hc) k
/-- two roads that meet at b: it is walked once -/
theorem Wk.join {a : State} (b : State) (P : Prop) (k2 : P → Wk p.tables e below G b) (k1 : (P → Wk p.tables e below G b) → Wk p.tables e below G a) : Wk p.tables e below G a := k1 k2
theorem Wk.iload (X : Hr p l e R s m args below meth c Z own bs ml n0 rt T h cells slots) {i : Nat} {v : Int32} (hd : decode bs pc = .ok (.iload i, 2)) (pc' : Nat) (hp : pc + 2 = pc') (hl : Ls[i]? = some (.val (.int v))) (k : Wk p.tables e below G (T.setTop (mkF m pc' Ls (.int v :: st)))) : Wk p.tables e below G (T.setTop (mkF m pc Ls st)) := by
  subst hp
  exact Wk.pu X (fun hA hx hc t q => XS.iload hA hx rfl (hb hc hd) hl q) k
theorem Wk.iloadN (X : Hr p l e R s m args below meth c Z own bs ml n0 rt T h cells slots) {i : Fin 4} {v : Int32} (hd : decode bs pc = .ok (.iload_n i, 1)) (pc' : Nat) (hp : pc + 1 = pc') (hl : Ls[i.val]? = some (.val (.int v))) (k : Wk p.tables e below G (T.setTop (mkF m pc' Ls (.int v :: st)))) : Wk p.tables e below G (T.setTop (mkF m pc Ls st)) := by
  subst hp
  exact Wk.pu X (fun hA hx hc t q => XS.iloadN hA hx rfl (hb hc hd) hl q) k
theorem Wk.lload (X : Hr p l e R s m args below meth c Z own bs ml n0 rt T h cells slots) {i : Nat} {v : Int64} (hd : decode bs pc = .ok (.lload i, 2)) (pc' : Nat) (hp : pc + 2 = pc') (hl : Ls[i]? = some (.val (.long v))) (k : Wk p.tables e below G (T.setTop (mkF m pc' Ls (.long v :: st)))) : Wk p.tables e below G (T.setTop (mkF m pc Ls st)) := by
  subst hp
  exact Wk.pu X (fun hA hx hc t q => XS.lload hA hx rfl (hb hc hd) hl q) k
theorem Wk.lloadN (X : Hr p l e R s m args below meth c Z own bs ml n0 rt T h cells slots) {i : Fin 4} {v : Int64} (hd : decode bs pc = .ok (.lload_n i, 1)) (pc' : Nat) (hp : pc + 1 = pc') (hl : Ls[i.val]? = some (.val (.long v))) (k : Wk p.tables e below G (T.setTop (mkF m pc' Ls (.long v :: st)))) : Wk p.tables e below G (T.setTop (mkF m pc Ls st)) := by
  subst hp
  exact Wk.pu X (fun hA hx hc t q => XS.lloadN hA hx rfl (hb hc hd) hl q) k
theorem Wk.aload (X : Hr p l e R s m args below meth c Z own bs ml n0 rt T h cells slots) {i : Nat} {v : Value} (hd : decode bs pc = .ok (.aload i, 2)) (pc' : Nat) (hp : pc + 2 = pc') (hl : Ls[i]? = some (.val v)) (hv : v.isRef = true) (k : Wk p.tables e below G (T.setTop (mkF m pc' Ls (v :: st)))) : Wk p.tables e below G (T.setTop (mkF m pc Ls st)) := by
  subst hp
  exact Wk.pu X (fun hA hx hc t q => XS.aload hA hx rfl (hb hc hd) hl hv q) k
theorem Wk.aloadN (X : Hr p l e R s m args below meth c Z own bs ml n0 rt T h cells slots) {i : Fin 4} {v : Value} (hd : decode bs pc = .ok (.aload_n i, 1)) (pc' : Nat) (hp : pc + 1 = pc') (hl : Ls[i.val]? = some (.val v)) (hv : v.isRef = true) (k : Wk p.tables e below G (T.setTop (mkF m pc' Ls (v :: st)))) : Wk p.tables e below G (T.setTop (mkF m pc Ls st)) := by
  subst hp
  exact Wk.pu X (fun hA hx hc t q => XS.aloadN hA hx rfl (hb hc hd) hl hv q) k
theorem Wk.istore (X : Hr p l e R s m args below meth c Z own bs ml n0 rt T h cells slots) {i : Nat} {v : Int32} (hd : decode bs pc = .ok (.istore i, 2)) (pc' : Nat) (hp : pc + 2 = pc') (Ls' : Array Slot) (hl : storeLocals Ls i (.int v) = some Ls') (k : Wk p.tables e below G (T.setTop (mkF m pc' Ls' st))) : Wk p.tables e below G (T.setTop (mkF m pc Ls (.int v :: st))) := by
  subst hp
  exact Wk.pu X (fun hA hx hc t q => XS.istore hA hx rfl (hb hc hd) rfl hl q) k
theorem Wk.istoreN (X : Hr p l e R s m args below meth c Z own bs ml n0 rt T h cells slots) {i : Fin 4} {v : Int32} (hd : decode bs pc = .ok (.istore_n i, 1)) (pc' : Nat) (hp : pc + 1 = pc') (Ls' : Array Slot) (hl : storeLocals Ls i.val (.int v) = some Ls') (k : Wk p.tables e below G (T.setTop (mkF m pc' Ls' st))) : Wk p.tables e below G (T.setTop (mkF m pc Ls (.int v :: st))) := by
  subst hp
  exact Wk.pu X (fun hA hx hc t q => XS.istoreN hA hx rfl (hb hc hd) rfl hl q) k
theorem Wk.lstore (X : Hr p l e R s m args below meth c Z own bs ml n0 rt T h cells slots) {i : Nat} {v : Int64} (hd : decode bs pc = .ok (.lstore i, 2)) (pc' : Nat) (hp : pc + 2 = pc') (Ls' : Array Slot) (hl : storeLocals Ls i (.long v) = some Ls') (k : Wk p.tables e below G (T.setTop (mkF m pc' Ls' st))) : Wk p.tables e below G (T.setTop (mkF m pc Ls (.long v :: st))) := by
  subst hp
  exact Wk.pu X (fun hA hx hc t q => XS.lstore hA hx rfl (hb hc hd) rfl hl q) k
theorem Wk.lstoreN (X : Hr p l e R s m args below meth c Z own bs ml n0 rt T h cells slots) {i : Fin 4} {v : Int64} (hd : decode bs pc = .ok (.lstore_n i, 1)) (pc' : Nat) (hp : pc + 1 = pc') (Ls' : Array Slot) (hl : storeLocals Ls i.val (.long v) = some Ls') (k : Wk p.tables e below G (T.setTop (mkF m pc' Ls' st))) : Wk p.tables e below G (T.setTop (mkF m pc Ls (.long v :: st))) := by
  subst hp
  exact Wk.pu X (fun hA hx hc t q => XS.lstoreN hA hx rfl (hb hc hd) rfl hl q) k
theorem Wk.astore (X : Hr p l e R s m args below meth c Z own bs ml n0 rt T h cells slots) {i : Nat} {v : Value} (hd : decode bs pc = .ok (.astore i, 2)) (pc' : Nat) (hp : pc + 2 = pc') (Ls' : Array Slot) (hv : v.isRef = true) (hl : storeLocals Ls i v = some Ls') (k : Wk p.tables e below G (T.setTop (mkF m pc' Ls' st))) : Wk p.tables e below G (T.setTop (mkF m pc Ls (v :: st))) := by
  subst hp
  exact Wk.pu X (fun hA hx hc t q => XS.astore hA hx rfl (hb hc hd) rfl hv hl q) k
theorem Wk.astoreN (X : Hr p l e R s m args below meth c Z own bs ml n0 rt T h cells slots) {i : Fin 4} {v : Value} (hd : decode bs pc = .ok (.astore_n i, 1)) (pc' : Nat) (hp : pc + 1 = pc') (Ls' : Array Slot) (hv : v.isRef = true) (hl : storeLocals Ls i.val v = some Ls') (k : Wk p.tables e below G (T.setTop (mkF m pc' Ls' st))) : Wk p.tables e below G (T.setTop (mkF m pc Ls (v :: st))) := by
  subst hp
  exact Wk.pu X (fun hA hx hc t q => XS.astoreN hA hx rfl (hb hc hd) rfl hv hl q) k
theorem Wk.iinc (X : Hr p l e R s m args below meth c Z own bs ml n0 rt T h cells slots) {i : Nat} {cst : Int} {v : Int32} (hd : decode bs pc = .ok (.iinc i cst, 3)) (pc' : Nat) (hp : pc + 3 = pc') (Ls' : Array Slot) (hl : Ls[i]? = some (.val (.int v))) (hl' : storeLocals Ls i (.int (v + Int32.ofInt cst)) = some Ls') (k : Wk p.tables e below G (T.setTop (mkF m pc' Ls' st))) : Wk p.tables e below G (T.setTop (mkF m pc Ls st)) := by
  subst hp
  exact Wk.pu X (fun hA hx hc t q => XS.iinc hA hx rfl (hb hc hd) hl hl' q) k
theorem Wk.iconst (X : Hr p l e R s m args below meth c Z own bs ml n0 rt T h cells slots) {i : Int} (hd : decode bs pc = .ok (.iconst i, 1)) (pc' : Nat) (hp : pc + 1 = pc') (z : Int32) (hz : Int32.ofInt i = z) (k : Wk p.tables e below G (T.setTop (mkF m pc' Ls (.int z :: st)))) : Wk p.tables e below G (T.setTop (mkF m pc Ls st)) := by
  subst hp hz
  exact Wk.pu X (fun hA hx hc t q => XS.iconst hA hx rfl (hb hc hd) q) k
theorem Wk.bipush (X : Hr p l e R s m args below meth c Z own bs ml n0 rt T h cells slots) {i : Int} (hd : decode bs pc = .ok (.bipush i, 2)) (pc' : Nat) (hp : pc + 2 = pc') (z : Int32) (hz : (Int8.ofInt i).toInt32 = z) (k : Wk p.tables e below G (T.setTop (mkF m pc' Ls (.int z :: st)))) : Wk p.tables e below G (T.setTop (mkF m pc Ls st)) := by
  subst hp hz
  exact Wk.pu X (fun hA hx hc t q => XS.bipush hA hx rfl (hb hc hd) q) k
theorem Wk.sipush (X : Hr p l e R s m args below meth c Z own bs ml n0 rt T h cells slots) {i : Int} (hd : decode bs pc = .ok (.sipush i, 3)) (pc' : Nat) (hp : pc + 3 = pc') (z : Int32) (hz : (Int16.ofInt i).toInt32 = z) (k : Wk p.tables e below G (T.setTop (mkF m pc' Ls (.int z :: st)))) : Wk p.tables e below G (T.setTop (mkF m pc Ls st)) := by
  subst hp hz
  exact Wk.pu X (fun hA hx hc t q => XS.sipush hA hx rfl (hb hc hd) q) k
theorem Wk.lconst (X : Hr p l e R s m args below meth c Z own bs ml n0 rt T h cells slots) {i : Fin 2} (hd : decode bs pc = .ok (.lconst i, 1)) (pc' : Nat) (hp : pc + 1 = pc') (z : Int64) (hz : Int64.ofNat i = z) (k : Wk p.tables e below G (T.setTop (mkF m pc' Ls (.long z :: st)))) : Wk p.tables e below G (T.setTop (mkF m pc Ls st)) := by
  subst hp hz
  exact Wk.pu X (fun hA hx hc t q => XS.lconst hA hx rfl (hb hc hd) q) k
theorem Wk.aconstNull (X : Hr p l e R s m args below meth c Z own bs ml n0 rt T h cells slots) (hd : decode bs pc = .ok (.aconst_null, 1)) (pc' : Nat) (hp : pc + 1 = pc') (k : Wk p.tables e below G (T.setTop (mkF m pc' Ls (.null :: st)))) : Wk p.tables e below G (T.setTop (mkF m pc Ls st)) := by
  subst hp
  exact Wk.pu X (fun hA hx hc t q => XS.aconstNull hA hx rfl (hb hc hd) q) k
theorem Wk.iadd (X : Hr p l e R s m args below meth c Z own bs ml n0 rt T h cells slots) {x y : Int32} (hd : decode bs pc = .ok (.iadd, 1)) (pc' : Nat) (hp : pc + 1 = pc') (k : Wk p.tables e below G (T.setTop (mkF m pc' Ls (.int (x + y) :: st)))) : Wk p.tables e below G (T.setTop (mkF m pc Ls (.int y :: .int x :: st))) := by
  subst hp
  exact Wk.pu X (fun hA hx hc t q => XS.iadd hA hx rfl (hb hc hd) rfl q) k
theorem Wk.isub (X : Hr p l e R s m args below meth c Z own bs ml n0 rt T h cells slots) {x y : Int32} (hd : decode bs pc = .ok (.isub, 1)) (pc' : Nat) (hp : pc + 1 = pc') (k : Wk p.tables e below G (T.setTop (mkF m pc' Ls (.int (x - y) :: st)))) : Wk p.tables e below G (T.setTop (mkF m pc Ls (.int y :: .int x :: st))) := by
  subst hp
  exact Wk.pu X (fun hA hx hc t q => XS.isub hA hx rfl (hb hc hd) rfl q) k
theorem Wk.imul (X : Hr p l e R s m args below meth c Z own bs ml n0 rt T h cells slots) {x y : Int32} (hd : decode bs pc = .ok (.imul, 1)) (pc' : Nat) (hp : pc + 1 = pc') (k : Wk p.tables e below G (T.setTop (mkF m pc' Ls (.int (x * y) :: st)))) : Wk p.tables e below G (T.setTop (mkF m pc Ls (.int y :: .int x :: st))) := by
  subst hp
  exact Wk.pu X (fun hA hx hc t q => XS.imul hA hx rfl (hb hc hd) rfl q) k
theorem Wk.iand (X : Hr p l e R s m args below meth c Z own bs ml n0 rt T h cells slots) {x y : Int32} (hd : decode bs pc = .ok (.iand, 1)) (pc' : Nat) (hp : pc + 1 = pc') (k : Wk p.tables e below G (T.setTop (mkF m pc' Ls (.int (x &&& y) :: st)))) : Wk p.tables e below G (T.setTop (mkF m pc Ls (.int y :: .int x :: st))) := by
  subst hp
  exact Wk.pu X (fun hA hx hc t q => XS.iand hA hx rfl (hb hc hd) rfl q) k
theorem Wk.ior (X : Hr p l e R s m args below meth c Z own bs ml n0 rt T h cells slots) {x y : Int32} (hd : decode bs pc = .ok (.ior, 1)) (pc' : Nat) (hp : pc + 1 = pc') (k : Wk p.tables e below G (T.setTop (mkF m pc' Ls (.int (x ||| y) :: st)))) : Wk p.tables e below G (T.setTop (mkF m pc Ls (.int y :: .int x :: st))) := by
  subst hp
  exact Wk.pu X (fun hA hx hc t q => XS.ior hA hx rfl (hb hc hd) rfl q) k
theorem Wk.ixor (X : Hr p l e R s m args below meth c Z own bs ml n0 rt T h cells slots) {x y : Int32} (hd : decode bs pc = .ok (.ixor, 1)) (pc' : Nat) (hp : pc + 1 = pc') (k : Wk p.tables e below G (T.setTop (mkF m pc' Ls (.int (x ^^^ y) :: st)))) : Wk p.tables e below G (T.setTop (mkF m pc Ls (.int y :: .int x :: st))) := by
  subst hp
  exact Wk.pu X (fun hA hx hc t q => XS.ixor hA hx rfl (hb hc hd) rfl q) k
theorem Wk.ishl (X : Hr p l e R s m args below meth c Z own bs ml n0 rt T h cells slots) {x y : Int32} (hd : decode bs pc = .ok (.ishl, 1)) (pc' : Nat) (hp : pc + 1 = pc') (k : Wk p.tables e below G (T.setTop (mkF m pc' Ls (.int (x <<< (y &&& 31)) :: st)))) : Wk p.tables e below G (T.setTop (mkF m pc Ls (.int y :: .int x :: st))) := by
  subst hp
  exact Wk.pu X (fun hA hx hc t q => XS.ishl hA hx rfl (hb hc hd) rfl q) k
theorem Wk.ishr (X : Hr p l e R s m args below meth c Z own bs ml n0 rt T h cells slots) {x y : Int32} (hd : decode bs pc = .ok (.ishr, 1)) (pc' : Nat) (hp : pc + 1 = pc') (k : Wk p.tables e below G (T.setTop (mkF m pc' Ls (.int (x >>> (y &&& 31)) :: st)))) : Wk p.tables e below G (T.setTop (mkF m pc Ls (.int y :: .int x :: st))) := by
  subst hp
  exact Wk.pu X (fun hA hx hc t q => XS.ishr hA hx rfl (hb hc hd) rfl q) k
theorem Wk.iushr (X : Hr p l e R s m args below meth c Z own bs ml n0 rt T h cells slots) {x y : Int32} (hd : decode bs pc = .ok (.iushr, 1)) (pc' : Nat) (hp : pc + 1 = pc') (k : Wk p.tables e below G (T.setTop (mkF m pc' Ls (.int ((x.toUInt32 >>> (y &&& 31).toUInt32).toInt32) :: st)))) : Wk p.tables e below G (T.setTop (mkF m pc Ls (.int y :: .int x :: st))) := by
  subst hp
  exact Wk.pu X (fun hA hx hc t q => XS.iushr hA hx rfl (hb hc hd) rfl q) k
theorem Wk.ladd (X : Hr p l e R s m args below meth c Z own bs ml n0 rt T h cells slots) {x y : Int64} (hd : decode bs pc = .ok (.ladd, 1)) (pc' : Nat) (hp : pc + 1 = pc') (k : Wk p.tables e below G (T.setTop (mkF m pc' Ls (.long (x + y) :: st)))) : Wk p.tables e below G (T.setTop (mkF m pc Ls (.long y :: .long x :: st))) := by
  subst hp
  exact Wk.pu X (fun hA hx hc t q => XS.ladd hA hx rfl (hb hc hd) rfl q) k
theorem Wk.lsub (X : Hr p l e R s m args below meth c Z own bs ml n0 rt T h cells slots) {x y : Int64} (hd : decode bs pc = .ok (.lsub, 1)) (pc' : Nat) (hp : pc + 1 = pc') (k : Wk p.tables e below G (T.setTop (mkF m pc' Ls (.long (x - y) :: st)))) : Wk p.tables e below G (T.setTop (mkF m pc Ls (.long y :: .long x :: st))) := by
  subst hp
  exact Wk.pu X (fun hA hx hc t q => XS.lsub hA hx rfl (hb hc hd) rfl q) k
theorem Wk.lmul (X : Hr p l e R s m args below meth c Z own bs ml n0 rt T h cells slots) {x y : Int64} (hd : decode bs pc = .ok (.lmul, 1)) (pc' : Nat) (hp : pc + 1 = pc') (k : Wk p.tables e below G (T.setTop (mkF m pc' Ls (.long (x * y) :: st)))) : Wk p.tables e below G (T.setTop (mkF m pc Ls (.long y :: .long x :: st))) := by
  subst hp
  exact Wk.pu X (fun hA hx hc t q => XS.lmul hA hx rfl (hb hc hd) rfl q) k
theorem Wk.land (X : Hr p l e R s m args below meth c Z own bs ml n0 rt T h cells slots) {x y : Int64} (hd : decode bs pc = .ok (.land, 1)) (pc' : Nat) (hp : pc + 1 = pc') (k : Wk p.tables e below G (T.setTop (mkF m pc' Ls (.long (x &&& y) :: st)))) : Wk p.tables e below G (T.setTop (mkF m pc Ls (.long y :: .long x :: st))) := by
  subst hp
  exact Wk.pu X (fun hA hx hc t q => XS.land hA hx rfl (hb hc hd) rfl q) k
theorem Wk.lor (X : Hr p l e R s m args below meth c Z own bs ml n0 rt T h cells slots) {x y : Int64} (hd : decode bs pc = .ok (.lor, 1)) (pc' : Nat) (hp : pc + 1 = pc') (k : Wk p.tables e below G (T.setTop (mkF m pc' Ls (.long (x ||| y) :: st)))) : Wk p.tables e below G (T.setTop (mkF m pc Ls (.long y :: .long x :: st))) := by
  subst hp
  exact Wk.pu X (fun hA hx hc t q => XS.lor hA hx rfl (hb hc hd) rfl q) k
theorem Wk.lxor (X : Hr p l e R s m args below meth c Z own bs ml n0 rt T h cells slots) {x y : Int64} (hd : decode bs pc = .ok (.lxor, 1)) (pc' : Nat) (hp : pc + 1 = pc') (k : Wk p.tables e below G (T.setTop (mkF m pc' Ls (.long (x ^^^ y) :: st)))) : Wk p.tables e below G (T.setTop (mkF m pc Ls (.long y :: .long x :: st))) := by
  subst hp
  exact Wk.pu X (fun hA hx hc t q => XS.lxor hA hx rfl (hb hc hd) rfl q) k
theorem Wk.lshl (X : Hr p l e R s m args below meth c Z own bs ml n0 rt T h cells slots) {x : Int64} {y : Int32} (hd : decode bs pc = .ok (.lshl, 1)) (pc' : Nat) (hp : pc + 1 = pc') (k : Wk p.tables e below G (T.setTop (mkF m pc' Ls (.long (x <<< (y &&& 0x3f).toInt64) :: st)))) : Wk p.tables e below G (T.setTop (mkF m pc Ls (.int y :: .long x :: st))) := by
  subst hp
  exact Wk.pu X (fun hA hx hc t q => XS.lshl hA hx rfl (hb hc hd) rfl q) k
theorem Wk.lshr (X : Hr p l e R s m args below meth c Z own bs ml n0 rt T h cells slots) {x : Int64} {y : Int32} (hd : decode bs pc = .ok (.lshr, 1)) (pc' : Nat) (hp : pc + 1 = pc') (k : Wk p.tables e below G (T.setTop (mkF m pc' Ls (.long (x >>> (y &&& 0x3f).toInt64) :: st)))) : Wk p.tables e below G (T.setTop (mkF m pc Ls (.int y :: .long x :: st))) := by
  subst hp
  exact Wk.pu X (fun hA hx hc t q => XS.lshr hA hx rfl (hb hc hd) rfl q) k
theorem Wk.lushr (X : Hr p l e R s m args below meth c Z own bs ml n0 rt T h cells slots) {x : Int64} {y : Int32} (hd : decode bs pc = .ok (.lushr, 1)) (pc' : Nat) (hp : pc + 1 = pc') (k : Wk p.tables e below G (T.setTop (mkF m pc' Ls (.long ((x.toUInt64 >>> (y &&& 0x3f).toInt64.toUInt64).toInt64) :: st)))) : Wk p.tables e below G (T.setTop (mkF m pc Ls (.int y :: .long x :: st))) := by
  subst hp
  exact Wk.pu X (fun hA hx hc t q => XS.lushr hA hx rfl (hb hc hd) rfl q) k
theorem Wk.ineg (X : Hr p l e R s m args below meth c Z own bs ml n0 rt T h cells slots) {x : Int32} (hd : decode bs pc = .ok (.ineg, 1)) (pc' : Nat) (hp : pc + 1 = pc') (k : Wk p.tables e below G (T.setTop (mkF m pc' Ls (.int (-x) :: st)))) : Wk p.tables e below G (T.setTop (mkF m pc Ls (.int x :: st))) := by
  subst hp
  exact Wk.pu X (fun hA hx hc t q => XS.ineg hA hx rfl (hb hc hd) rfl q) k
theorem Wk.i2b (X : Hr p l e R s m args below meth c Z own bs ml n0 rt T h cells slots) {x : Int32} (hd : decode bs pc = .ok (.i2b, 1)) (pc' : Nat) (hp : pc + 1 = pc') (k : Wk p.tables e below G (T.setTop (mkF m pc' Ls (.int (x.toInt8.toInt32) :: st)))) : Wk p.tables e below G (T.setTop (mkF m pc Ls (.int x :: st))) := by
  subst hp
  exact Wk.pu X (fun hA hx hc t q => XS.i2b hA hx rfl (hb hc hd) rfl q) k
theorem Wk.i2c (X : Hr p l e R s m args below meth c Z own bs ml n0 rt T h cells slots) {x : Int32} (hd : decode bs pc = .ok (.i2c, 1)) (pc' : Nat) (hp : pc + 1 = pc') (k : Wk p.tables e below G (T.setTop (mkF m pc' Ls (.int (x.toUInt32.toUInt16.toUInt32.toInt32) :: st)))) : Wk p.tables e below G (T.setTop (mkF m pc Ls (.int x :: st))) := by
  subst hp
  exact Wk.pu X (fun hA hx hc t q => XS.i2c hA hx rfl (hb hc hd) rfl q) k
theorem Wk.i2s (X : Hr p l e R s m args below meth c Z own bs ml n0 rt T h cells slots) {x : Int32} (hd : decode bs pc = .ok (.i2s, 1)) (pc' : Nat) (hp : pc + 1 = pc') (k : Wk p.tables e below G (T.setTop (mkF m pc' Ls (.int (x.toInt16.toInt32) :: st)))) : Wk p.tables e below G (T.setTop (mkF m pc Ls (.int x :: st))) := by
  subst hp
  exact Wk.pu X (fun hA hx hc t q => XS.i2s hA hx rfl (hb hc hd) rfl q) k
theorem Wk.i2l (X : Hr p l e R s m args below meth c Z own bs ml n0 rt T h cells slots) {x : Int32} (hd : decode bs pc = .ok (.i2l, 1)) (pc' : Nat) (hp : pc + 1 = pc') (k : Wk p.tables e below G (T.setTop (mkF m pc' Ls (.long (x.toInt64) :: st)))) : Wk p.tables e below G (T.setTop (mkF m pc Ls (.int x :: st))) := by
  subst hp
  exact Wk.pu X (fun hA hx hc t q => XS.i2l hA hx rfl (hb hc hd) rfl q) k
theorem Wk.l2i (X : Hr p l e R s m args below meth c Z own bs ml n0 rt T h cells slots) {x : Int64} (hd : decode bs pc = .ok (.l2i, 1)) (pc' : Nat) (hp : pc + 1 = pc') (k : Wk p.tables e below G (T.setTop (mkF m pc' Ls (.int (x.toInt32) :: st)))) : Wk p.tables e below G (T.setTop (mkF m pc Ls (.long x :: st))) := by
  subst hp
  exact Wk.pu X (fun hA hx hc t q => XS.l2i hA hx rfl (hb hc hd) rfl q) k
theorem Wk.lneg (X : Hr p l e R s m args below meth c Z own bs ml n0 rt T h cells slots) {x : Int64} (hd : decode bs pc = .ok (.lneg, 1)) (pc' : Nat) (hp : pc + 1 = pc') (k : Wk p.tables e below G (T.setTop (mkF m pc' Ls (.long (-x) :: st)))) : Wk p.tables e below G (T.setTop (mkF m pc Ls (.long x :: st))) := by
  subst hp
  exact Wk.pu X (fun hA hx hc t q => XS.lneg hA hx rfl (hb hc hd) rfl q) k
theorem Wk.lcmp (X : Hr p l e R s m args below meth c Z own bs ml n0 rt T h cells slots) {x y : Int64} (hd : decode bs pc = .ok (.lcmp, 1)) (pc' : Nat) (hp : pc + 1 = pc') (k : Wk p.tables e below G (T.setTop (mkF m pc' Ls (.int (if x > y then 1 else if x = y then 0 else -1) :: st)))) : Wk p.tables e below G (T.setTop (mkF m pc Ls (.long y :: .long x :: st))) := by
  subst hp
  exact Wk.pu X (fun hA hx hc t q => XS.lcmp hA hx rfl (hb hc hd) rfl q) k
theorem Wk.dup (X : Hr p l e R s m args below meth c Z own bs ml n0 rt T h cells slots) {v : Value} (hd : decode bs pc = .ok (.dup, 1)) (pc' : Nat) (hp : pc + 1 = pc') (hv : v.category = 1) (k : Wk p.tables e below G (T.setTop (mkF m pc' Ls (v :: v :: st)))) : Wk p.tables e below G (T.setTop (mkF m pc Ls (v :: st))) := by
  subst hp
  exact Wk.pu X (fun hA hx hc t q => XS.dup hA hx rfl (hb hc hd) rfl hv q) k
theorem Wk.dupX1 (X : Hr p l e R s m args below meth c Z own bs ml n0 rt T h cells slots) {v w : Value} (hd : decode bs pc = .ok (.dup_x1, 1)) (pc' : Nat) (hp : pc + 1 = pc') (hv : v.category = 1) (hw : w.category = 1) (k : Wk p.tables e below G (T.setTop (mkF m pc' Ls (v :: w :: v :: st)))) : Wk p.tables e below G (T.setTop (mkF m pc Ls (v :: w :: st))) := by
  subst hp
  exact Wk.pu X (fun hA hx hc t q => XS.dupX1 hA hx rfl (hb hc hd) rfl hv hw q) k
theorem Wk.pop (X : Hr p l e R s m args below meth c Z own bs ml n0 rt T h cells slots) {v : Value} (hd : decode bs pc = .ok (.pop, 1)) (pc' : Nat) (hp : pc + 1 = pc') (hv : v.category = 1) (k : Wk p.tables e below G (T.setTop (mkF m pc' Ls st))) : Wk p.tables e below G (T.setTop (mkF m pc Ls (v :: st))) := by
  subst hp
  exact Wk.pu X (fun hA hx hc t q => XS.pop hA hx rfl (hb hc hd) rfl hv q) k
theorem Wk.irem (X : Hr p l e R s m args below meth c Z own bs ml n0 rt T h cells slots) {x y : Int32} (hd : decode bs pc = .ok (.irem, 1)) (pc' : Nat) (hp : pc + 1 = pc') (hy : y ≠ 0) (k : Wk p.tables e below G (T.setTop (mkF m pc' Ls (.int (x % y) :: st)))) : Wk p.tables e below G (T.setTop (mkF m pc Ls (.int y :: .int x :: st))) := by
  subst hp
  obtain ⟨⟨locs, Y, N⟩, hx, hc, -⟩ := X
  exact Wk.go (fun t q => iremM (g := mkF m pc Ls (.int y :: .int x :: st)) Y hx rfl (hb hc hd) rfl hy q) k
theorem Wk.idiv (X : Hr p l e R s m args below meth c Z own bs ml n0 rt T h cells slots) {x y : Int32} (hd : decode bs pc = .ok (.idiv, 1)) (pc' : Nat) (hp : pc + 1 = pc') (hy : y ≠ 0) (k : Wk p.tables e below G (T.setTop (mkF m pc' Ls (.int (x / y) :: st)))) : Wk p.tables e below G (T.setTop (mkF m pc Ls (.int y :: .int x :: st))) := by
  subst hp
  exact Wk.pu X (fun hA hx hc t q => XS.idiv hA hx rfl (hb hc hd) rfl hy q) k
theorem Wk.goto (X : Hr p l e R s m args below meth c Z own bs ml n0 rt T h cells slots) {o : Int} (hd : decode bs pc = .ok (.goto o, 3)) (pc' : Nat) (hp : 0 ≤ (pc : Int) + o ∧ ((pc : Int) + o).toNat = pc') (k : Wk p.tables e below G (T.setTop (mkF m pc' Ls st))) : Wk p.tables e below G (T.setTop (mkF m pc Ls st)) :=
  Wk.pu X (fun hA hx hc t q => XS.goto hA hx rfl (pc0 := pc) (pc' := pc') rfl (hb hc hd) hp.1 hp.2 q) k
theorem Wk.icmpT (X : Hr p l e R s m args below meth c Z own bs ml n0 rt T h cells slots) {cd : ClassFile.Cond} {o : Int} {x y : Int32} (hd : decode bs pc = .ok (.if_icmp cd o, 3)) (pt : Nat) (ht : 0 ≤ (pc : Int) + o ∧ ((pc : Int) + o).toNat = pt) (q : cmpT cd x y) (k : Wk p.tables e below G (T.setTop (mkF m pt Ls st))) : Wk p.tables e below G (T.setTop (mkF m pc Ls (.int y :: .int x :: st))) :=
  Wk.pu X (fun hA hx hc t z => XS.icmpYes hA hx rfl (pc0 := pc) (pc' := pt) rfl (hb hc hd) rfl (cmp_t q) ht.1 ht.2 z) k
theorem Wk.icmpF (X : Hr p l e R s m args below meth c Z own bs ml n0 rt T h cells slots) {cd : ClassFile.Cond} {o : Int} {x y : Int32} (hd : decode bs pc = .ok (.if_icmp cd o, 3)) (pf : Nat) (hf : pc + 3 = pf) (q : cmpF cd x y) (k : Wk p.tables e below G (T.setTop (mkF m pf Ls st))) : Wk p.tables e below G (T.setTop (mkF m pc Ls (.int y :: .int x :: st))) := by
  subst hf
  exact Wk.pu X (fun hA hx hc t z => XS.icmpNo hA hx rfl (hb hc hd) rfl (cmp_f q) z) k
theorem Wk.icmp (X : Hr p l e R s m args below meth c Z own bs ml n0 rt T h cells slots) {cd : ClassFile.Cond} {o : Int} {x y : Int32} (hd : decode bs pc = .ok (.if_icmp cd o, 3)) (pt pf : Nat) (ht : 0 ≤ (pc : Int) + o ∧ ((pc : Int) + o).toNat = pt) (hf : pc + 3 = pf) (kt : cmpT cd x y → Wk p.tables e below G (T.setTop (mkF m pt Ls st))) (kf : cmpF cd x y → Wk p.tables e below G (T.setTop (mkF m pf Ls st))) : Wk p.tables e below G (T.setTop (mkF m pc Ls (.int y :: .int x :: st))) :=
  (cmp_or cd x y).elim (fun q => Wk.icmpT X hd pt ht q (kt q)) (fun q => Wk.icmpF X hd pf hf q (kf q))
theorem Wk.ifcT (X : Hr p l e R s m args below meth c Z own bs ml n0 rt T h cells slots) {cd : ClassFile.Cond} {o : Int} {x : Int32} (hd : decode bs pc = .ok (.ifCond cd o, 3)) (pt : Nat) (ht : 0 ≤ (pc : Int) + o ∧ ((pc : Int) + o).toNat = pt) (q : cmpT cd x 0) (k : Wk p.tables e below G (T.setTop (mkF m pt Ls st))) : Wk p.tables e below G (T.setTop (mkF m pc Ls (.int x :: st))) :=
  Wk.pu X (fun hA hx hc t z => XS.ifYes hA hx rfl (pc0 := pc) (pc' := pt) rfl (hb hc hd) rfl ((if0 _ _).trans (cmp_t q)) ht.1 ht.2 z) k
theorem Wk.ifcF (X : Hr p l e R s m args below meth c Z own bs ml n0 rt T h cells slots) {cd : ClassFile.Cond} {o : Int} {x : Int32} (hd : decode bs pc = .ok (.ifCond cd o, 3)) (pf : Nat) (hf : pc + 3 = pf) (q : cmpF cd x 0) (k : Wk p.tables e below G (T.setTop (mkF m pf Ls st))) : Wk p.tables e below G (T.setTop (mkF m pc Ls (.int x :: st))) := by
  subst hf
  exact Wk.pu X (fun hA hx hc t z => XS.ifNo hA hx rfl (hb hc hd) rfl ((if0 _ _).trans (cmp_f q)) z) k
theorem Wk.ifc (X : Hr p l e R s m args below meth c Z own bs ml n0 rt T h cells slots) {cd : ClassFile.Cond} {o : Int} {x : Int32} (hd : decode bs pc = .ok (.ifCond cd o, 3)) (pt pf : Nat) (ht : 0 ≤ (pc : Int) + o ∧ ((pc : Int) + o).toNat = pt) (hf : pc + 3 = pf) (kt : cmpT cd x 0 → Wk p.tables e below G (T.setTop (mkF m pt Ls st))) (kf : cmpF cd x 0 → Wk p.tables e below G (T.setTop (mkF m pf Ls st))) : Wk p.tables e below G (T.setTop (mkF m pc Ls (.int x :: st))) :=
  (cmp_or cd x 0).elim (fun q => Wk.ifcT X hd pt ht q (kt q)) (fun q => Wk.ifcF X hd pf hf q (kf q))
theorem Wk.ifnullT (X : Hr p l e R s m args below meth c Z own bs ml n0 rt T h cells slots) {o : Int} (hd : decode bs pc = .ok (.ifnull o, 3)) (pt : Nat) (ht : 0 ≤ (pc : Int) + o ∧ ((pc : Int) + o).toNat = pt) (k : Wk p.tables e below G (T.setTop (mkF m pt Ls st))) : Wk p.tables e below G (T.setTop (mkF m pc Ls (.null :: st))) :=
  Wk.pu X (fun hA hx hc t z => XS.ifnullYes hA hx rfl (pc0 := pc) (pc' := pt) rfl (hb hc hd) rfl ht.1 ht.2 z) k
theorem Wk.ifnullF (X : Hr p l e R s m args below meth c Z own bs ml n0 rt T h cells slots) {o : Int} {b : Addr} (hd : decode bs pc = .ok (.ifnull o, 3)) (pf : Nat) (hf : pc + 3 = pf) (k : Wk p.tables e below G (T.setTop (mkF m pf Ls st))) : Wk p.tables e below G (T.setTop (mkF m pc Ls (.ref b :: st))) := by
  subst hf
  exact Wk.pu X (fun hA hx hc t z => XS.ifnullNo hA hx rfl (hb hc hd) rfl z) k
theorem Wk.ifnonnullT (X : Hr p l e R s m args below meth c Z own bs ml n0 rt T h cells slots) {o : Int} {b : Addr} (hd : decode bs pc = .ok (.ifnonnull o, 3)) (pt : Nat) (ht : 0 ≤ (pc : Int) + o ∧ ((pc : Int) + o).toNat = pt) (k : Wk p.tables e below G (T.setTop (mkF m pt Ls st))) : Wk p.tables e below G (T.setTop (mkF m pc Ls (.ref b :: st))) :=
  Wk.pu X (fun hA hx hc t z => XS.ifnonnullYes hA hx rfl (pc0 := pc) (pc' := pt) rfl (hb hc hd) rfl ht.1 ht.2 z) k
theorem Wk.ifnonnullF (X : Hr p l e R s m args below meth c Z own bs ml n0 rt T h cells slots) {o : Int} (hd : decode bs pc = .ok (.ifnonnull o, 3)) (pf : Nat) (hf : pc + 3 = pf) (k : Wk p.tables e below G (T.setTop (mkF m pf Ls st))) : Wk p.tables e below G (T.setTop (mkF m pc Ls (.null :: st))) := by
  subst hf
  exact Wk.pu X (fun hA hx hc t z => XS.ifnonnullNo hA hx rfl (hb hc hd) rfl z) k
theorem Wk.acmpT (X : Hr p l e R s m args below meth c Z own bs ml n0 rt T h cells slots) {cd : ClassFile.ACond} {o : Int} {a b : Addr} (hd : decode bs pc = .ok (.if_acmp cd o, 3)) (pt : Nat) (ht : 0 ≤ (pc : Int) + o ∧ ((pc : Int) + o).toNat = pt) (q : if_acmp.holds cd (some a) (some b) = true) (k : Wk p.tables e below G (T.setTop (mkF m pt Ls st))) : Wk p.tables e below G (T.setTop (mkF m pc Ls (.ref b :: .ref a :: st))) :=
  Wk.pu X (fun hA hx hc t z => XS.acmpYes hA hx rfl (pc0 := pc) (pc' := pt) rfl (hb hc hd) rfl q ht.1 ht.2 z) k
theorem Wk.acmpF (X : Hr p l e R s m args below meth c Z own bs ml n0 rt T h cells slots) {cd : ClassFile.ACond} {o : Int} {a b : Addr} (hd : decode bs pc = .ok (.if_acmp cd o, 3)) (pf : Nat) (hf : pc + 3 = pf) (q : if_acmp.holds cd (some a) (some b) = false) (k : Wk p.tables e below G (T.setTop (mkF m pf Ls st))) : Wk p.tables e below G (T.setTop (mkF m pc Ls (.ref b :: .ref a :: st))) := by
  subst hf
  exact Wk.pu X (fun hA hx hc t z => XS.acmpNo hA hx rfl (hb hc hd) rfl q z) k
theorem Wk.ldcInt (X : Hr p l e R s m args below meth c Z own bs ml n0 rt T h cells slots) {i : Nat} {v : Int32} (w : (Cond.constant own i v).before a0 Z = true) (hd : decode bs pc = .ok (.ldc i, 2)) (pc' : Nat) (hp : pc + 2 = pc') (k : Wk p.tables e below G (T.setTop (mkF m pc' Ls (.int v :: st)))) : Wk p.tables e below G (T.setTop (mkF m pc Ls st)) := by
  subst hp
  obtain ⟨⟨locs, Y, N⟩, hx, hc, -, hZ, ho, -⟩ := X
  exact Wk.go (fun t q => Y.ldcInt hx ho (mvT hZ w) (g := mkF m pc Ls st) rfl (hb hc hd) t q) k
theorem Wk.ldc2Long (X : Hr p l e R s m args below meth c Z own bs ml n0 rt T h cells slots) {i : Nat} {v : Int64} (w : (Cond.constantLong own i v).before a0 Z = true) (hd : decode bs pc = .ok (.ldc2_w i, 3)) (pc' : Nat) (hp : pc + 3 = pc') (k : Wk p.tables e below G (T.setTop (mkF m pc' Ls (.long v :: st)))) : Wk p.tables e below G (T.setTop (mkF m pc Ls st)) := by
  subst hp
  obtain ⟨⟨locs, Y, N⟩, hx, hc, -, hZ, ho, -⟩ := X
  exact Wk.go (fun t q => Y.ldc2Long hx ho (mvT hZ w) (g := mkF m pc Ls st) rfl (hb hc hd) t q) k
theorem Arl.at {a : Addr} {ty : FieldType} {us : List Value} {j : Int32} {i : Nat} {v : Value} (A : Arl Z h a ty us) (hj : j.toInt = i) (hv : us[i]? = some v) : ∃ cl : Cell, Arr Z h a cl ty ∧ ¬ (j < 0 ∨ cl.slots.size ≤ j.toNatClampNeg) ∧ cl.slots[j.toNatClampNeg]? = some v := by
  obtain ⟨cl, A, r1, r2⟩ := A
  have hi : i < us.length := (List.getElem?_eq_some_iff.mp hv).1
  have q := ix_in (n := cl.slots.size) hj (by rw [r1]; simpa using hi)
  exact ⟨cl, A, q.1, by rw [q.2, r1]; simpa using hv⟩
theorem Wk.iaload (X : Hr p l e R s m args below meth c Z own bs ml n0 rt T h cells slots) {a : Addr} {us : List Value} {j : Int32} {v : Value} (A : Arl Z h a .int us) (i : Nat) (hj : j.toInt = i) (hv : us[i]? = some v) (hd : decode bs pc = .ok (.iaload, 1)) (pc' : Nat) (hp : pc + 1 = pc') (k : Wk p.tables e below G (T.setTop (mkF m pc' Ls (v :: st)))) : Wk p.tables e below G (T.setTop (mkF m pc Ls (.int j :: .ref a :: st))) := by
  subst hp
  obtain ⟨⟨locs, Y, N⟩, hx, hc, -, hZ, ho, -, -, eT⟩ := X
  obtain ⟨cl, A, q1, q2⟩ := A.at hj hv
  exact Wk.go (fun t q => Y.iaload hx (by rw [eT]; exact A.1) (State.isArrayOf_alike hZ.alike A.2.1) A.2.2 q1 q2 (g := mkF m pc Ls (.int j :: .ref a :: st)) rfl rfl (hb hc hd) t q) k
theorem Wk.laload (X : Hr p l e R s m args below meth c Z own bs ml n0 rt T h cells slots) {a : Addr} {us : List Value} {j : Int32} {v : Value} (A : Arl Z h a .long us) (i : Nat) (hj : j.toInt = i) (hv : us[i]? = some v) (hd : decode bs pc = .ok (.laload, 1)) (pc' : Nat) (hp : pc + 1 = pc') (k : Wk p.tables e below G (T.setTop (mkF m pc' Ls (v :: st)))) : Wk p.tables e below G (T.setTop (mkF m pc Ls (.int j :: .ref a :: st))) := by
  subst hp
  obtain ⟨⟨locs, Y, N⟩, hx, hc, -, hZ, ho, -, -, eT⟩ := X
  obtain ⟨cl, A, q1, q2⟩ := A.at hj hv
  exact Wk.go (fun t q => Y.laload hx (by rw [eT]; exact A.1) (State.isArrayOf_alike hZ.alike A.2.1) A.2.2 q1 q2 (g := mkF m pc Ls (.int j :: .ref a :: st)) rfl rfl (hb hc hd) t q) k
theorem Wk.baload (X : Hr p l e R s m args below meth c Z own bs ml n0 rt T h cells slots) {a : Addr} {us : List Value} {j : Int32} {v : Value} (A : Arl Z h a .byte us) (i : Nat) (hj : j.toInt = i) (hv : us[i]? = some v) (hd : decode bs pc = .ok (.baload, 1)) (pc' : Nat) (hp : pc + 1 = pc') (k : Wk p.tables e below G (T.setTop (mkF m pc' Ls (v :: st)))) : Wk p.tables e below G (T.setTop (mkF m pc Ls (.int j :: .ref a :: st))) := by
  subst hp
  obtain ⟨⟨locs, Y, N⟩, hx, hc, -, hZ, ho, -, -, eT⟩ := X
  obtain ⟨cl, A, q1, q2⟩ := A.at hj hv
  exact Wk.go (fun t q => Y.baloadBytes hx (by rw [eT]; exact A.1) (State.isArrayOf_alike hZ.alike A.2.1) A.2.2 q1 q2 (g := mkF m pc Ls (.int j :: .ref a :: st)) rfl rfl (hb hc hd) t q) k
theorem Wk.arraylength (X : Hr p l e R s m args below meth c Z own bs ml n0 rt T h cells slots) {a : Addr} {ty : FieldType} {us : List Value} (A : Arl Z h a ty us) (hd : decode bs pc = .ok (.arraylength, 1)) (pc' : Nat) (hp : pc + 1 = pc') (z : Int32) (hz : us.length.toInt32 = z) (k : Wk p.tables e below G (T.setTop (mkF m pc' Ls (.int z :: st)))) : Wk p.tables e below G (T.setTop (mkF m pc Ls (.ref a :: st))) := by
  subst hp hz
  obtain ⟨⟨locs, Y, N⟩, hx, hc, -, hZ, ho, -, -, eT⟩ := X
  obtain ⟨cl, A, r1, r2⟩ := A
  have hs : cl.slots.size = us.length := by rw [r1]; simp
  rw [← hs] at k
  exact Wk.go (fun t q => Y.arraylength hx (by rw [eT]; exact A.1) (State.isArrayOf_alike hZ.alike A.2.1) (g := mkF m pc Ls (.ref a :: st)) rfl rfl (hb hc hd) t q) k
theorem Wk.getfield (X : Hr p l e R s m args below meth c Z own bs ml n0 rt T h cells slots) {i : Nat} {R0 O n d : String} {a : Addr} {v : Value} (w : (Cond.fieldLink own i R0 n d).before a0 Z = true) (via : Via Z R0 O n d) (F : Fld Z h a O n d v) (hd : decode bs pc = .ok (.getfield i, 3)) (pc' : Nat) (hp : pc + 3 = pc')
    (k : ∀ T', Hr p l e R s m args below meth c Z own bs ml n0 rt T' h cells slots → Wk p.tables e below G (T'.setTop (mkF m pc' Ls (v :: st)))) : Wk p.tables e below G (T.setTop (mkF m pc Ls (.ref a :: st))) := by
  subst hp
  obtain ⟨⟨locs, Y, N⟩, hx, hc, hm, hZ, ho, hr, hl, eT⟩ := X
  obtain ⟨T', Y', e', q⟩ := getF Y hx hZ ho (host := "") (Or.inl w) via eT F (g := mkF m pc Ls (.ref a :: st)) rfl rfl (hb hc hd)
  exact Wk.go q (k T' ⟨⟨locs, Y', N⟩, hx, hc, hm, hZ, ho, hr, hl, e'⟩)
theorem Wk.putfield (X : Hr p l e R s m args below meth c Z own bs ml n0 rt T h cells slots) {i kk : Nat} {R0 O n d C : String} {ty : FieldType} {a : Addr} {v old : Value} (w : (Cond.fieldLink own i R0 n d).before a0 Z = true) (via : Via Z R0 O n d) (F : Fld Z h a O n d old) (E : Exa Z h a C) (L : (Cond.lays C O n d).before a0 Z = true ∨ ((Cond.laysFinal C O n d).before a0 Z = true ∧ own = O ∧ meth.name = "<init>")) (wi : (Cond.instantiable C kk).before a0 Z = true)
    (hty : parseFieldDescriptor d = some ty) (hn : narrow ty v = v) (hf : fits ty v = true) (hnew : n0 ≤ a) (hd : decode bs pc = .ok (.putfield i, 3)) (pc' : Nat) (hp : pc + 3 = pc')
    (k : ∀ T' h', Hr p l e R s m args below meth c Z own bs ml n0 rt T' h' cells slots → Wr h h' a (Jvm.RoadKit.slotOf Z O n d) v → Wk p.tables e below G (T'.setTop (mkF m pc' Ls st))) : Wk p.tables e below G (T.setTop (mkF m pc Ls (v :: .ref a :: st))) := by
  subst hp
  obtain ⟨⟨locs, Y, N⟩, hx, hc, hm, hZ, ho, hr, hl, eT⟩ := X
  obtain ⟨T', h', Y', e', W, q⟩ := putF Y hx hZ ho (host := "") (Or.inl w) via eT F E L wi hty hn hf (g := mkF m pc Ls (v :: .ref a :: st)) rfl rfl (hb hc hd)
  exact Wk.go q (k T' h' ⟨⟨_, Y', Fr.snoc Y' N hnew⟩, hx, hc, hm, hZ, ho, hr, hl, e'⟩ W)
theorem Wk.getstatic (X : Hr p l e R s m args below meth c Z own bs ml n0 rt T h cells slots) {i : Nat} {R0 O n d : String} {v : Value} (w : (Cond.fieldLink own i R0 n d).before a0 Z = true) (via : Via Z R0 O n d) (F : Sta Z h O n d v) (hd : decode bs pc = .ok (.getstatic i, 3)) (pc' : Nat) (hp : pc + 3 = pc')
    (k : ∀ T', Hr p l e R s m args below meth c Z own bs ml n0 rt T' h cells slots → Wk p.tables e below G (T'.setTop (mkF m pc' Ls (v :: st)))) : Wk p.tables e below G (T.setTop (mkF m pc Ls st)) := by
  subst hp
  obtain ⟨⟨locs, Y, N⟩, hx, hc, hm, hZ, ho, hr, hl, eT⟩ := X
  obtain ⟨T', Y', e', q⟩ := getS Y hx hZ (host := "") ho w via eT F (g := mkF m pc Ls st) rfl (hb hc hd)
  exact Wk.go q (k T' ⟨⟨locs, Y', N⟩, hx, hc, hm, hZ, ho, hr, hl, e'⟩)
theorem Wk.new (X : Hr p l e R s m args below meth c Z own bs ml n0 rt T h cells slots) {i n : Nat} {C : String} (w : (Cond.classLink own i C).before a0 Z = true) (wi : (Cond.instantiable C n).before a0 Z = true) (wz : (Cond.initialized C).before a0 Z = true) (hd : decode bs pc = .ok (.new i, 3)) (pc' : Nat) (hp : pc + 3 = pc') (hce : cells + 1 ≤ R.cells) (hsl : slots + n ≤ R.slots)
    (k : ∀ T' h' a, a = h.size → Hr p l e R s m args below meth c Z own bs ml n0 rt T' h' (cells + 1) (slots + n) → Ext h h' → Exa Z h' a C → (∀ {O nm d : String} {ty : FieldType}, Laid Z a0 C O nm d → parseFieldDescriptor d = some ty → Fld Z h' a O nm d (defaultValue ty)) → Wk p.tables e below G (T'.setTop (mkF m pc' Ls (.ref a :: st)))) : Wk p.tables e below G (T.setTop (mkF m pc Ls st)) := by
  subst hp
  obtain ⟨⟨locs, Y, N⟩, hx, hc, hm, hZ, ho, hr, hl, eT⟩ := X
  obtain ⟨T', h', Y', e', E, A, D, -, q⟩ := newO Y hx hZ ho w wi wz eT (g := mkF m pc Ls st) rfl (hb hc hd) hce hsl
  exact Wk.go q (k T' h' _ rfl ⟨⟨_, Y', N⟩, hx, hc, hm, hZ, ho, hr, hl, e'⟩ E A D)
theorem Wk.newarray (X : Hr p l e R s m args below meth c Z own bs ml n0 rt T h cells slots) {aty : ArrayType} {n : Int32} (w : (Cond.arrayClass (newarray.typeOf aty)).before a0 Z = true) (hd : decode bs pc = .ok (.newarray aty, 2)) (pc' : Nat) (hp : pc + 2 = pc') (i : Nat) (hn : n.toInt = i) (cap : Nat) (hcap : i ≤ cap) (hbig : cap * 8 ≤ 536870912) (hce : cells + 1 ≤ R.cells) (hsl : slots + cap ≤ R.slots)
    (k : ∀ T' h' a, a = h.size → Hr p l e R s m args below meth c Z own bs ml n0 rt T' h' (cells + 1) (slots + cap) → Ext h h' → Arl Z h' a (newarray.typeOf aty) (List.replicate i (defaultValue (newarray.typeOf aty))) → Wk p.tables e below G (T'.setTop (mkF m pc' Ls (.ref a :: st)))) : Wk p.tables e below G (T.setTop (mkF m pc Ls (.int n :: st))) := by
  subst hp
  obtain ⟨⟨locs, Y, N⟩, hx, hc, hm, hZ, ho, hr, hl, eT⟩ := X
  have hi : n.toNatClampNeg = i := by simp [Int32.toNatClampNeg, hn]
  have h0 : ¬ n < 0 := by rw [Int32.lt_iff_toInt_lt, hn]; simp only [Int32.reduceToInt]; omega
  obtain ⟨T', h', cA, Y', e', E, A, q⟩ := newP Y hx hZ w eT (g := mkF m pc Ls (.int n :: st)) rfl (hb hc hd) rfl h0 (cap := cap) (by rw [hi]; exact hcap) hbig hce hsl
  refine Wk.go q (k T' h' _ rfl ⟨⟨_, Y', N⟩, hx, hc, hm, hZ, ho, hr, hl, e'⟩ E ⟨_, A, ?_, by simp; omega⟩)
  simp [newA, hi]
theorem Wk.iastore (X : Hr p l e R s m args below meth c Z own bs ml n0 rt T h cells slots) {a : Addr} {us : List Value} {j v : Int32} (A : Arl Z h a .int us) (hnew : n0 ≤ a) (i : Nat) (hj : j.toInt = i) (hi : i < us.length) (hd : decode bs pc = .ok (.iastore, 1)) (pc' : Nat) (hp : pc + 1 = pc')
    (k : ∀ T' h', Hr p l e R s m args below meth c Z own bs ml n0 rt T' h' cells slots → Wr h h' a i (.int v) → Wk p.tables e below G (T'.setTop (mkF m pc' Ls st))) : Wk p.tables e below G (T.setTop (mkF m pc Ls (.int v :: .int j :: .ref a :: st))) := by
  subst hp
  obtain ⟨⟨locs, Y, N⟩, hx, hc, hm, hZ, ho, hr, hl, eT⟩ := X
  obtain ⟨cl, A, q1, -⟩ := A.at hj (List.getElem?_eq_getElem hi)
  obtain ⟨T', h', Y', e', W, q⟩ := stI Y hx hZ eT A q1 (g := mkF m pc Ls (.int v :: .int j :: .ref a :: st)) rfl rfl (hb hc hd)
  rw [(ix_in hj hi).2] at W
  exact Wk.go q (k T' h' ⟨⟨_, Y', Fr.snoc Y' N hnew⟩, hx, hc, hm, hZ, ho, hr, hl, e'⟩ W)
theorem Wk.lastore (X : Hr p l e R s m args below meth c Z own bs ml n0 rt T h cells slots) {a : Addr} {us : List Value} {j : Int32} {v : Int64} (A : Arl Z h a .long us) (hnew : n0 ≤ a) (i : Nat) (hj : j.toInt = i) (hi : i < us.length) (hd : decode bs pc = .ok (.lastore, 1)) (pc' : Nat) (hp : pc + 1 = pc')
    (k : ∀ T' h', Hr p l e R s m args below meth c Z own bs ml n0 rt T' h' cells slots → Wr h h' a i (.long v) → Wk p.tables e below G (T'.setTop (mkF m pc' Ls st))) : Wk p.tables e below G (T.setTop (mkF m pc Ls (.long v :: .int j :: .ref a :: st))) := by
  subst hp
  obtain ⟨⟨locs, Y, N⟩, hx, hc, hm, hZ, ho, hr, hl, eT⟩ := X
  obtain ⟨cl, A, q1, -⟩ := A.at hj (List.getElem?_eq_getElem hi)
  obtain ⟨T', h', Y', e', W, q⟩ := stJ Y hx hZ eT A q1 (g := mkF m pc Ls (.long v :: .int j :: .ref a :: st)) rfl rfl (hb hc hd)
  rw [(ix_in hj hi).2] at W
  exact Wk.go q (k T' h' ⟨⟨_, Y', Fr.snoc Y' N hnew⟩, hx, hc, hm, hZ, ho, hr, hl, e'⟩ W)
theorem Wk.bastore (X : Hr p l e R s m args below meth c Z own bs ml n0 rt T h cells slots) {a : Addr} {us : List Value} {j v : Int32} (A : Arl Z h a .byte us) (hnew : n0 ≤ a) (i : Nat) (hj : j.toInt = i) (hi : i < us.length) (hd : decode bs pc = .ok (.bastore, 1)) (pc' : Nat) (hp : pc + 1 = pc')
    (k : ∀ T' h', Hr p l e R s m args below meth c Z own bs ml n0 rt T' h' cells slots → Wr h h' a i (.int v.toInt8.toInt32) → Wk p.tables e below G (T'.setTop (mkF m pc' Ls st))) : Wk p.tables e below G (T.setTop (mkF m pc Ls (.int v :: .int j :: .ref a :: st))) := by
  subst hp
  obtain ⟨⟨locs, Y, N⟩, hx, hc, hm, hZ, ho, hr, hl, eT⟩ := X
  obtain ⟨cl, A, q1, -⟩ := A.at hj (List.getElem?_eq_getElem hi)
  obtain ⟨T', h', Y', e', W, q⟩ := stB Y hx hZ eT A q1 (g := mkF m pc Ls (.int v :: .int j :: .ref a :: st)) rfl rfl (hb hc hd)
  rw [(ix_in hj hi).2] at W
  exact Wk.go q (k T' h' ⟨⟨_, Y', Fr.snoc Y' N hnew⟩, hx, hc, hm, hZ, ho, hr, hl, e'⟩ W)
theorem Wk.callS (X : Hr p l e R s m args below meth c Z own bs ml n0 rt T h cells slots) {i : Nat} {y : MethodName} {bytes : ByteArray} {maxL : Nat} {rt' : Option FieldType} {rm : Room} {as' : Array Value} {Q : Option Value → Heap → Prop} (w1 : (Cond.methodLink own i y).before a0 Z = true) (w2 : (Cond.static y).before a0 Z = true) (w3 : (Cond.initialized y.cls).before a0 Z = true) (w4 : (Cond.code y bytes maxL rt').before a0 Z = true) (hM : Con l y bytes maxL rt' rm [] Z as' h n0 Q)
    (hy : y.cls ≠ "java/lang/invoke/MethodHandle" ∧ y.cls ≠ "java/lang/invoke/VarHandle") {ps : List FieldType} {r : Option FieldType} (hds : parseMethodDescriptor y.desc = some ⟨ps, r⟩) (argsL rest : List Value) (hlen : argsL.length = ps.length) (hst : st = argsL.reverse ++ rest) (has : argsL.toArray = as') (hls : Ls.size = ml) (W : Nat) (hW : (rest.map fun v => v.category).sum ≤ W) (hfr : rm.frames + 1 ≤ R.frames) (hlo : W + (maxL + 11) + rm.locals ≤ R.locals) (hce : cells + rm.cells ≤ R.cells) (hsl : slots + rm.slots ≤ R.slots) (cells' slots' : Nat) (hc' : cells + rm.cells = cells') (hs' : slots + rm.slots = slots')
    (hd : decode bs pc = .ok (.invokestatic i, 3)) (pc' : Nat) (hp : pc + 3 = pc')
    (k : ∀ v T' h', Hr p l e R s m args below meth c Z own bs ml n0 rt T' h' cells' slots' → Q v h' → Wk p.tables e below G (T'.setTop (mkF m pc' Ls (v.toList ++ rest)))) : Wk p.tables e below G (T.setTop (mkF m pc Ls st)) := by
  subst hp hc' hs' hst has
  obtain ⟨⟨locs, Y, N⟩, hx, hc, hm, hZ, ho, hr, hl, eT⟩ := X
  obtain ⟨v, _, ⟨T1, L1, k1, n1⟩, -, Y1, ⟨Lc, hQ, l1, y1, z1⟩, q⟩ := Jvm.LawKit.callS Y hx (y := y) ho (mvT hZ w1) (mvT hZ w2) (mvT hZ w3) (mvT hZ w4) hy (backOf (W := W) (Q := fun v h L => Q v h ∧ Fr n0 L) hM hZ w4 w3 hfr hlo) (g := mkF m pc Ls (argsL.reverse ++ rest)) rfl (by rw [hm]; exact hls) (argsL := argsL) (rest := rest) (lenOf hds hlen) rfl (by show 2 * 0 + _ ≤ _; omega) (hb hc hd) (fun _ _ => ⟨rfl, eT, hce, hsl⟩)
  dsimp only [Pt.U, Pt.locs, Pt.cells, Pt.slots] at Y1 l1 y1 z1 q hQ
  subst l1 y1 z1
  exact Wk.go q (k v T1 T1.heap ⟨⟨_, Y1, Fr.app N hQ.2⟩, hx, hc, hm, hZ, ho, hr, hl, rfl⟩ hQ.1)
theorem Wk.callI (X : Hr p l e R s m args below meth c Z own bs ml n0 rt T h cells slots) {i : Nat} {y : MethodName} {bytes : ByteArray} {maxL : Nat} {rm : Room} {as' : Array Value} {a : Addr} {Q : Option Value → Heap → Prop} (hini : y.name = "<init>") (w1 : (Cond.methodLink own i y).before a0 Z = true) (w2 : (Cond.instanceMethod y).before a0 Z = true) (w3 : (Cond.initialized y.cls).before a0 Z = true) (w4 : (Cond.code y bytes maxL none).before a0 Z = true) (hM : Con l y bytes maxL none rm [] Z as' h n0 Q)
    (hy : y.cls ≠ "java/lang/invoke/MethodHandle" ∧ y.cls ≠ "java/lang/invoke/VarHandle") {ps : List FieldType} {r : Option FieldType} (hds : parseMethodDescriptor y.desc = some ⟨ps, r⟩) (argsL rest : List Value) (hlen : argsL.length = ps.length) (hst : st = argsL.reverse ++ .ref a :: rest) (has : (.ref a :: argsL).toArray = as') (hls : Ls.size = ml) (W : Nat) (hW : (rest.map fun v => v.category).sum ≤ W) (hfr : rm.frames + 1 ≤ R.frames) (hlo : W + (maxL + 11) + rm.locals ≤ R.locals) (hce : cells + rm.cells ≤ R.cells) (hsl : slots + rm.slots ≤ R.slots) (cells' slots' : Nat) (hc' : cells + rm.cells = cells') (hs' : slots + rm.slots = slots')
    (hd : decode bs pc = .ok (.invokespecial i, 3)) (pc' : Nat) (hp : pc + 3 = pc')
    (k : ∀ v T' h', Hr p l e R s m args below meth c Z own bs ml n0 rt T' h' cells' slots' → Q v h' → Wk p.tables e below G (T'.setTop (mkF m pc' Ls (v.toList ++ rest)))) : Wk p.tables e below G (T.setTop (mkF m pc Ls st)) := by
  subst hp hc' hs' hst has
  obtain ⟨⟨locs, Y, N⟩, hx, hc, hm, hZ, ho, hr, hl, eT⟩ := X
  obtain ⟨v, _, ⟨T1, L1, k1, n1⟩, -, Y1, ⟨Lc, hQ, l1, y1, z1⟩, q⟩ := Y.specialBack hx (y := y) hini ho (mvT hZ w1) (mvT hZ w2) (mvT hZ w4) hy (backOf (W := W) (Q := fun v h L => Q v h ∧ Fr n0 L) hM hZ w4 w3 hfr hlo) (g := mkF m pc Ls (argsL.reverse ++ .ref a :: rest)) rfl (by rw [hm]; exact hls) (Steps.refl _) (a := a) (argsL := argsL) (rest := rest) (lenOf hds hlen) rfl (by show 2 * 0 + _ ≤ _; omega) (hb hc hd) (fun _ _ => ⟨rfl, eT, hce, hsl⟩)
  dsimp only [Pt.U, Pt.locs, Pt.cells, Pt.slots] at Y1 l1 y1 z1 q hQ
  subst l1 y1 z1
  exact Wk.go (fun t z => q.trans z) (k v T1 T1.heap ⟨⟨_, Y1, Fr.app N hQ.2⟩, hx, hc, hm, hZ, ho, hr, hl, rfl⟩ hQ.1)
theorem Wk.callV (X : Hr p l e R s m args below meth c Z own bs ml n0 rt T h cells slots) {i : Nat} {y : MethodName} {C : String} {bytes : ByteArray} {maxL : Nat} {rt' : Option FieldType} {rm : Room} {as' : Array Value} {a : Addr} {Q : Option Value → Heap → Prop} (w1 : (Cond.methodLink own i y).before a0 Z = true) (wd : (Cond.declares y).before a0 Z = true) (ws : (Cond.selects C y y).before a0 Z = true) (w2 : (Cond.instanceMethod y).before a0 Z = true) (w3 : (Cond.initialized y.cls).before a0 Z = true) (w4 : (Cond.code y bytes maxL rt').before a0 Z = true) (E : Exa Z h a C) (hM : Con l y bytes maxL rt' rm [] Z as' h n0 Q)
    (hy : y.cls ≠ "java/lang/invoke/MethodHandle" ∧ y.cls ≠ "java/lang/invoke/VarHandle") {ps : List FieldType} {r : Option FieldType} (hds : parseMethodDescriptor y.desc = some ⟨ps, r⟩) (argsL rest : List Value) (hlen : argsL.length = ps.length) (hst : st = argsL.reverse ++ .ref a :: rest) (has : (.ref a :: argsL).toArray = as') (hls : Ls.size = ml) (W : Nat) (hW : (rest.map fun v => v.category).sum ≤ W) (hfr : rm.frames + 1 ≤ R.frames) (hlo : W + (maxL + 11) + rm.locals ≤ R.locals) (hce : cells + rm.cells ≤ R.cells) (hsl : slots + rm.slots ≤ R.slots) (cells' slots' : Nat) (hc' : cells + rm.cells = cells') (hs' : slots + rm.slots = slots')
    (hd : decode bs pc = .ok (.invokevirtual i, 3)) (pc' : Nat) (hp : pc + 3 = pc')
    (k : ∀ v T' h', Hr p l e R s m args below meth c Z own bs ml n0 rt T' h' cells' slots' → Q v h' → Wk p.tables e below G (T'.setTop (mkF m pc' Ls (v.toList ++ rest)))) : Wk p.tables e below G (T.setTop (mkF m pc Ls st)) := by
  subst hp hc' hs' hst has
  obtain ⟨⟨locs, Y, N⟩, hx, hc, hm, hZ, ho, hr, hl, eT⟩ := X
  obtain ⟨cq, kq, qa, qb, qc⟩ := isOf hZ eT E
  obtain ⟨v, _, ⟨T1, L1, k1, n1⟩, -, Y1, ⟨Lc, hQ, l1, y1, z1⟩, q⟩ := Y.virtualBack hx (y := y) (z := y) ho (mvT hZ w1) (mvT hZ wd) (notFace_of_selects (args := #[]) (mvT hZ ws)) (mvT hZ ws) (mvT hZ w2) hy (backOf (W := W) (Q := fun v h L => Q v h ∧ Fr n0 L) hM hZ w4 w3 hfr hlo) qa qc (g := mkF m pc Ls (argsL.reverse ++ .ref a :: rest)) rfl (by rw [hm]; exact hls) (Steps.refl _) (argsL := argsL) (rest := rest) (lenOf hds hlen) rfl (by show 2 * 0 + _ ≤ _; omega) (hb hc hd) (fun _ _ => ⟨rfl, eT, hce, hsl⟩)
  dsimp only [Pt.U, Pt.locs, Pt.cells, Pt.slots] at Y1 l1 y1 z1 q hQ
  subst l1 y1 z1
  exact Wk.go (fun t z => q.trans z) (k v T1 T1.heap ⟨⟨_, Y1, Fr.app N hQ.2⟩, hx, hc, hm, hZ, ho, hr, hl, rfl⟩ hQ.1)
theorem Hr.more (X : Hr p l e R s m args below meth c Z own bs ml n0 rt T h cells slots) {cells' slots' : Nat} (h1 : cells ≤ cells') (h2 : slots ≤ slots') : Hr p l e R s m args below meth c Z own bs ml n0 rt T h cells' slots' := by
  obtain ⟨⟨locs, Y, N⟩, r⟩ := X
  exact ⟨⟨locs, Y.more h1 h2, N⟩, r⟩
variable {Q : Option Value → Heap → Prop} {C N : Nat}
theorem Wk.ireturn (X : Hr p l e R s m args below meth c Z own bs ml n0 (some .int) T h cells slots) {z : Int32} (hd : decode bs pc = .ok (.ireturn, 1)) (hC : cells ≤ C) (hN : slots ≤ N) (q : Q (some (.int z)) h) : Wk p.tables e below (Gl s n0 Q C N) (T.setTop (mkF m pc Ls (.int z :: st))) := by
  obtain ⟨⟨locs, Y, F⟩, hx, hc, hm, hZ, ho, hr, hl, rfl⟩ := X
  obtain ⟨fs, hq, hrun, hended, hW, hsame⟩ := Y.leave (v := some (.int z)) (fun h => by rw [hr] at h; cases h) hl
  exact ⟨_, _, retOut Y hx hr rfl (Or.inl ⟨rfl, Or.inl rfl, _, rfl⟩) (hb hc hd) hq, hrun, hended, _, _, rfl, ⟨q, F⟩, ⟨_, rfl⟩, hW, hsame.mono hC hN⟩
theorem Wk.zreturn (X : Hr p l e R s m args below meth c Z own bs ml n0 (some .boolean) T h cells slots) {z : Int32} (hd : decode bs pc = .ok (.ireturn, 1)) (hC : cells ≤ C) (hN : slots ≤ N) (hz : z = 0 ∨ z = 1) (q : Q (some (.int z)) h) : Wk p.tables e below (Gl s n0 Q C N) (T.setTop (mkF m pc Ls (.int z :: st))) := by
  obtain ⟨⟨locs, Y, F⟩, hx, hc, hm, hZ, ho, hr, hl, rfl⟩ := X
  obtain ⟨fs, hq, hrun, hended, hW, hsame⟩ := Y.leave (v := some (.int z)) (fun h => by rw [hr] at h; cases h) hl
  exact ⟨_, _, retOut Y hx hr (by rcases hz with rfl | rfl <;> rfl) (Or.inl ⟨rfl, Or.inr (Or.inl rfl), _, rfl⟩) (hb hc hd) hq, hrun, hended, _, _, rfl, ⟨q, F⟩, ⟨_, rfl⟩, hW, hsame.mono hC hN⟩
theorem Wk.lreturn (X : Hr p l e R s m args below meth c Z own bs ml n0 (some .long) T h cells slots) {z : Int64} (hd : decode bs pc = .ok (.lreturn, 1)) (hC : cells ≤ C) (hN : slots ≤ N) (q : Q (some (.long z)) h) : Wk p.tables e below (Gl s n0 Q C N) (T.setTop (mkF m pc Ls (.long z :: st))) := by
  obtain ⟨⟨locs, Y, F⟩, hx, hc, hm, hZ, ho, hr, hl, rfl⟩ := X
  obtain ⟨fs, hq, hrun, hended, hW, hsame⟩ := Y.leave (v := some (.long z)) (fun h => by rw [hr] at h; cases h) hl
  exact ⟨_, _, retOut Y hx hr rfl (Or.inr (Or.inl ⟨rfl, rfl, _, rfl⟩)) (hb hc hd) hq, hrun, hended, _, _, rfl, ⟨q, F⟩, ⟨_, rfl⟩, hW, hsame.mono hC hN⟩
theorem Wk.areturn {ty : FieldType} (X : Hr p l e R s m args below meth c Z own bs ml n0 (some ty) T h cells slots) {v : Value} (hd : decode bs pc = .ok (.areturn, 1)) (hC : cells ≤ C) (hN : slots ≤ N) (ht : ty.isReference = true) (hn : narrow ty v = v) (hv : v.isRef = true) (q : Q (some v) h) : Wk p.tables e below (Gl s n0 Q C N) (T.setTop (mkF m pc Ls (v :: st))) := by
  obtain ⟨⟨locs, Y, F⟩, hx, hc, hm, hZ, ho, hr, hl, rfl⟩ := X
  obtain ⟨fs, hq, hrun, hended, hW, hsame⟩ := Y.leave (v := some v) (fun h => by rw [hr] at h; cases h) hl
  exact ⟨_, _, retOut Y hx hr hn (Or.inr (Or.inr (Or.inr (Or.inr ⟨rfl, ht, hv⟩)))) (hb hc hd) hq, hrun, hended, _, _, rfl, ⟨q, F⟩, ⟨_, rfl⟩, hW, hsame.mono hC hN⟩
theorem Wk.vreturn (X : Hr p l e R s m args below meth c Z own bs ml n0 none T h cells slots) (hd : decode bs pc = .ok (.return_, 1)) (hC : cells ≤ C) (hN : slots ≤ N) (q : Q none h) : Wk p.tables e below (Gl s n0 Q C N) (T.setTop (mkF m pc Ls [])) := by
  obtain ⟨⟨locs, Y, F⟩, hx, hc, hm, hZ, ho, hr, hl, rfl⟩ := X
  obtain ⟨fs, hq, hrun, hended, hW, hsame⟩ := Y.leave (v := none) (fun _ => rfl) hl
  exact ⟨_, _, Y.returnOut hx hr (hb hc hd) hq, hrun, hended, _, _, rfl, ⟨q, F⟩, ⟨_, rfl⟩, hW, hsame.mono hC hN⟩
end Layer
theorem nn_new {n0 a r n : Nat} (q : n0 ≤ a) (h : a < n) (g : r = n) : n0 ≤ r := by omega
theorem ne_new {a r n : Nat} (h : a < n) (g : r = n) : a ≠ r := by omega
section Layer4
variable {p : Program} {l : Launch} {e : Env} {R : Room} {s : State} {m : MethodId} {args : Array Value} {below : List Frame} {meth : Method} {c : Code} {Z : State} {own : String} {bs : ByteArray} {ml n0 : Nat} {rt : Option FieldType} {T : State} {h h' : Heap} {cells slots : Nat} {G : State → Outcome → Prop} {pc : Nat} {Ls : Array Slot} {st : List Value} {a0 : Array Value} {a b : Addr}
/-- a cell that the VM knows -/
def Kn (h : Heap) (a : Addr) : Prop := ∃ cell : Cell, h[a]? = some cell ∧ cell.vm ≠ .unknown
theorem Kn.of {O n d : String} {v : Value} (F : Fld Z h a O n d v) : Kn h a := by
  obtain ⟨cell, _, _, _, _, h1, -, -, h4, -⟩ := F; exact ⟨cell, h1, h4⟩
theorem Kn.ext (N : Kn h a) (E : Ext h h') : Kn h' a := by
  obtain ⟨cell, h1, h2⟩ := N; exact ⟨cell, E.2 _ _ h1, h2⟩
theorem Kn.keep {ws : List Addr} (N : Kn h a) (K : Keep h h' ws) : Kn h' a := by
  obtain ⟨cell, h1, h2⟩ := N
  obtain ⟨c', q1, -, q3, -⟩ := K.2.2 a cell h1
  exact ⟨c', q1, by rw [q3]; exact h2⟩
theorem Kn.wr {sl : Nat} {v : Value} (N : Kn h a) (W : Wr h h' b sl v) : Kn h' a := N.keep (Keep.of_wr W)
theorem Wk.putF (X : Hr p l e R s m args below meth c Z own bs ml n0 rt T h cells slots) {i kk : Nat} {R0 O n d C : String} {ty : FieldType} {v : Value} (w : (Cond.fieldLink own i R0 n d).before a0 Z = true) (via : Via Z R0 O n d) (E : Exa Z h a C) (N : Kn h a) (L : (Cond.lays C O n d).before a0 Z = true ∨ ((Cond.laysFinal C O n d).before a0 Z = true ∧ own = O ∧ meth.name = "<init>")) (wi : (Cond.instantiable C kk).before a0 Z = true)
    (hty : parseFieldDescriptor d = some ty) (hn : narrow ty v = v) (hf : fits ty v = true) (hnew : n0 ≤ a) (hd : decode bs pc = .ok (.putfield i, 3)) (pc' : Nat) (hp : pc + 3 = pc')
    (k : ∀ T' h', Hr p l e R s m args below meth c Z own bs ml n0 rt T' h' cells slots → Wr h h' a (Jvm.RoadKit.slotOf Z O n d) v → Fld Z h' a O n d v → Wk p.tables e below G (T'.setTop (mkF m pc' Ls st))) : Wk p.tables e below G (T.setTop (mkF m pc Ls (v :: .ref a :: st))) := by
  obtain ⟨old, F⟩ := fld_laid (a0 := a0) E N wi (O := O) (n := n) (d := d) (L.imp id (·.1))
  exact Wk.putfield X w via F E L wi hty hn hf hnew hd pc' hp (fun T' h' X' W => k T' h' X' W (F.same W))
theorem Wk.castY (X : Hr p l e R s m args below meth c Z own bs ml n0 rt T h cells slots) {i : Nat} {K : String} (w : (Cond.classLink own i K).before a0 Z = true) (F : Ins Z h a K true) (hd : decode bs pc = .ok (.checkcast i, 3)) (pc' : Nat) (hp : pc + 3 = pc')
    (k : ∀ T', Hr p l e R s m args below meth c Z own bs ml n0 rt T' h cells slots → Wk p.tables e below G (T'.setTop (mkF m pc' Ls (.ref a :: st)))) : Wk p.tables e below G (T.setTop (mkF m pc Ls (.ref a :: st))) := by
  subst hp
  obtain ⟨⟨locs, Y, N⟩, hx, hc, hm, hZ, ho, hr, hl, eT⟩ := X
  obtain ⟨T', Y', e', q⟩ := Jvm.RoadKit.castY Y hx hZ ho w eT F (g := mkF m pc Ls (.ref a :: st)) rfl rfl (hb hc hd)
  exact Wk.go q (k T' ⟨⟨locs, Y', N⟩, hx, hc, hm, hZ, ho, hr, hl, e'⟩)
theorem Wk.instY (X : Hr p l e R s m args below meth c Z own bs ml n0 rt T h cells slots) {i : Nat} {K : String} (w : (Cond.classLink own i K).before a0 Z = true) (F : Ins Z h a K true) (hd : decode bs pc = .ok (.instanceof i, 3)) (pc' : Nat) (hp : pc + 3 = pc')
    (k : ∀ T', Hr p l e R s m args below meth c Z own bs ml n0 rt T' h cells slots → Wk p.tables e below G (T'.setTop (mkF m pc' Ls (.int 1 :: st)))) : Wk p.tables e below G (T.setTop (mkF m pc Ls (.ref a :: st))) := by
  subst hp
  obtain ⟨⟨locs, Y, N⟩, hx, hc, hm, hZ, ho, hr, hl, eT⟩ := X
  obtain ⟨T', Y', e', q⟩ := Jvm.RoadKit.instY Y hx hZ ho w eT F (g := mkF m pc Ls (.ref a :: st)) rfl rfl (hb hc hd)
  exact Wk.go q (k T' ⟨⟨locs, Y', N⟩, hx, hc, hm, hZ, ho, hr, hl, e'⟩)
/-- a private method's call, by its contract: that its class is no interface comes of another method's 'selects' word -/
theorem Wk.callP (X : Hr p l e R s m args below meth c Z own bs ml n0 rt T h cells slots) {i : Nat} {y z : MethodName} {C : String} {bytes : ByteArray} {maxL : Nat} {rt' : Option FieldType} {rm : Room} {as' : Array Value} {Q : Option Value → Heap → Prop} (w1 : (Cond.methodLink own i y).before a0 Z = true) (wp : (Cond.privateMethod y).before a0 Z = true) (w2 : (Cond.instanceMethod y).before a0 Z = true) (w3 : (Cond.initialized y.cls).before a0 Z = true) (w4 : (Cond.code y bytes maxL rt').before a0 Z = true) (ws : (Cond.selects C z z).before a0 Z = true) (hz : z.cls = y.cls) (E : Exa Z h a C) (hM : Con l y bytes maxL rt' rm [] Z as' h n0 Q)
    (hy : y.cls ≠ "java/lang/invoke/MethodHandle" ∧ y.cls ≠ "java/lang/invoke/VarHandle") {ps : List FieldType} {r : Option FieldType} (hds : parseMethodDescriptor y.desc = some ⟨ps, r⟩) (argsL rest : List Value) (hlen : argsL.length = ps.length) (hst : st = argsL.reverse ++ .ref a :: rest) (has : (.ref a :: argsL).toArray = as') (hls : Ls.size = ml) (W : Nat) (hW : (rest.map fun v => v.category).sum ≤ W) (hfr : rm.frames + 1 ≤ R.frames) (hlo : W + (maxL + 11) + rm.locals ≤ R.locals) (hce : cells + rm.cells ≤ R.cells) (hsl : slots + rm.slots ≤ R.slots) (cells' slots' : Nat) (hc' : cells + rm.cells = cells') (hs' : slots + rm.slots = slots')
    (hd : decode bs pc = .ok (.invokevirtual i, 3)) (pc' : Nat) (hp : pc + 3 = pc')
    (k : ∀ v T' h', Hr p l e R s m args below meth c Z own bs ml n0 rt T' h' cells' slots' → Q v h' → Wk p.tables e below G (T'.setTop (mkF m pc' Ls (v.toList ++ rest)))) : Wk p.tables e below G (T.setTop (mkF m pc Ls st)) := by
  subst hp hc' hs' hst has
  obtain ⟨⟨locs, Y, N⟩, hx, hc, hm, hZ, ho, hr, hl, eT⟩ := X
  obtain ⟨cell, hcell, hobj⟩ := E.cell
  obtain ⟨mk, methM, hnamed, hmethM, hstM, habM⟩ := Cond.instanceMethod_spec (mv (args := args) hZ w2)
  obtain ⟨methM', cM, hmethM', -, -, -, -, -, -, hsigM⟩ := Cond.code_spec hnamed (mv (args := args) hZ w4)
  cases hmethM.symm.trans hmethM'
  obtain ⟨c2, r2, m2, q1, q2, q3, q4, kP, hkP, hkPi⟩ := Cond.selects_spec (mv (args := args) hZ ws)
  have hcls : m2.cls = mk.cls := by
    have a1 := findClass_of_methodNamed q3
    have a2 := findClass_of_methodNamed hnamed
    rw [hz] at a1
    exact Option.some.inj (a1.symm.trans a2)
  rw [hcls] at hkP
  have hpriv := Cond.privateMethod_at (mvP hZ wp (args := args))
  have hselP : selectMethod e.platform s.vm cell.cls mk = .method mk := selectMethod_private hmethM (hpriv mk methM hnamed hmethM)
  obtain ⟨vm₁, X₁, hstep₁⟩ := Y.invokevirtual hx ho (mv (args := args) hZ w1) hnamed hmethM hstM hkP hkPi hy (a := a) (cell := cell) (by rw [eT]; exact hcell) hobj hselP hmethM habM hkP hkPi (g := mkF m pc Ls (argsL.reverse ++ .ref a :: rest)) rfl (argsL := argsL) (rest := rest) (lenOf hds hlen _ hsigM) rfl (hb hc hd)
  have hW₁ : s.WarmedH vm₁ := X₁.warmed
  have hK := backOf (len := 3) (W := W) (Q := fun v h L => Q v h ∧ Fr n0 L) (below := below) (s := s) (args := args) (p := p) (e := e) hM hZ w4 w3 hfr hlo
  obtain ⟨v, ⟨T1, L1, k1, n1⟩, Y1, ⟨Lc, hQ, l1, y1, z1⟩, hsteps⟩ := hK m meth c ⟨T.setVm vm₁, locs, cells, slots⟩ (mkF m pc Ls rest) (.invokevirtual i) mk (.ref a :: argsL).toArray X₁ rfl (by rw [hm]; exact hls) (hb hc hd) (by show 2 * 0 + (rest.map fun v => v.category).sum ≤ W; omega) (X₁.named hnamed) ⟨rfl, eT, hce, hsl⟩
  dsimp only [Pt.U, Pt.locs, Pt.cells, Pt.slots] at Y1 l1 y1 z1 hQ hsteps
  subst l1 y1 z1
  refine Wk.go (fun t z => ?_) (k v T1 T1.heap ⟨⟨_, Y1, Fr.app N hQ.2⟩, hx, hc, hm, hZ, ho, hr, hl, rfl⟩ hQ.1)
  exact hstep₁ _ fun acts => by rw [doInvoke_state]; exact hsteps.trans z
/-- the int on top, written otherwise -/
theorem Wk.topI {x : Int32} (z : Int32) (q : x = z) (k : Wk p.tables e below G (T.setTop (mkF m pc Ls (.int z :: st)))) : Wk p.tables e below G (T.setTop (mkF m pc Ls (.int x :: st))) := by
  subst q; exact k
/-- roads that meet with an int of any worth -/
theorem Wk.joinI {a : State} (b : Int32 → State) (k2 : ∀ q, Wk p.tables e below G (b q)) (k1 : (∀ q, Wk p.tables e below G (b q)) → Wk p.tables e below G a) : Wk p.tables e below G a := k1 k2
theorem Wk.dup2 (X : Hr p l e R s m args below meth c Z own bs ml n0 rt T h cells slots) {v w : Value} (hd : decode bs pc = .ok (.dup2, 1)) (pc' : Nat) (hp : pc + 1 = pc') (hv : v.category = 1) (hw : w.category = 1) (k : Wk p.tables e below G (T.setTop (mkF m pc' Ls (v :: w :: v :: w :: st)))) : Wk p.tables e below G (T.setTop (mkF m pc Ls (v :: w :: st))) := by
  subst hp
  exact Wk.pu X (fun hA hx hc t q => Jvm.Free.XT.dup2 hA hx rfl (hb hc hd) rfl hv hw q) k
theorem Wk.nreturn {ty : FieldType} (X : Hr p l e R s m args below meth c Z own bs ml n0 (some ty) T h cells slots) {Q : Option Value → Heap → Prop} {C N : Nat} {z : Int32} (ht : ty = .int ∨ ty = .boolean ∨ ty = .byte ∨ ty = .char ∨ ty = .short) (hd : decode bs pc = .ok (.ireturn, 1)) (hC : cells ≤ C) (hN : slots ≤ N) (hz : narrow ty (.int z) = .int z) (q : Q (some (.int z)) h) : Wk p.tables e below (Gl s n0 Q C N) (T.setTop (mkF m pc Ls (.int z :: st))) := by
  obtain ⟨⟨locs, Y, F⟩, hx, hc, hm, hZ, ho, hr, hl, rfl⟩ := X
  obtain ⟨fs, hq, hrun, hended, hW, hsame⟩ := Y.leave (v := some (.int z)) (fun h => by rw [hr] at h; cases h) hl
  exact ⟨_, _, retOut Y hx hr hz (Or.inl ⟨rfl, ht, _, rfl⟩) (hb hc hd) hq, hrun, hended, _, _, rfl, ⟨q, F⟩, ⟨_, rfl⟩, hW, hsame.mono hC hN⟩
end Layer4
theorem t0 {a0 : Array Value} {Z : State} (hw : ∀ d ∈ tables_1, d.before a0 Z = true) : Jvm.Cond.before (Jvm.Cond.constant "com/example/semblance/semblance/distance/EditDistanceProfilePinLaw" (7 : Nat) (2147483647 : Int32)) a0 Z = true := hw _ (List.mem_of_getElem? (i := 0) rfl)
theorem t1 {a0 : Array Value} {Z : State} (hw : ∀ d ∈ tables_1, d.before a0 Z = true) : Jvm.Cond.before (Jvm.Cond.methodLink "com/example/semblance/semblance/distance/EditDistanceProfilePinLaw" (9 : Nat) ({ cls := "com/example/semblance/semblance/distance/EditDistanceProfilePinLaw", name := "cp", desc := "(I)I" } : Jvm.MethodName)) a0 Z = true := hw _ (List.mem_of_getElem? (i := 1) rfl)
theorem t2 {a0 : Array Value} {Z : State} (hw : ∀ d ∈ tables_1, d.before a0 Z = true) : Jvm.Cond.before (Jvm.Cond.static ({ cls := "com/example/semblance/semblance/distance/EditDistanceProfilePinLaw", name := "cp", desc := "(I)I" } : Jvm.MethodName)) a0 Z = true := hw _ (List.mem_of_getElem? (i := 2) rfl)
theorem t3 {a0 : Array Value} {Z : State} (hw : ∀ d ∈ tables_1, d.before a0 Z = true) : Jvm.Cond.before (Jvm.Cond.initialized "com/example/semblance/semblance/distance/EditDistanceProfilePinLaw") a0 Z = true := hw _ (List.mem_of_getElem? (i := 3) rfl)
theorem t4 {a0 : Array Value} {Z : State} (hw : ∀ d ∈ tables_1, d.before a0 Z = true) : Jvm.Cond.before (Jvm.Cond.code ({ cls := "com/example/semblance/semblance/distance/EditDistanceProfilePinLaw", name := "cp", desc := "(I)I" } : Jvm.MethodName) method_2_code (1 : Nat) (Option.some Jvm.ClassFile.FieldType.int)) a0 Z = true := hw _ (List.mem_of_getElem? (i := 4) rfl)
theorem t5 {a0 : Array Value} {Z : State} (hw : ∀ d ∈ tables_1, d.before a0 Z = true) : Jvm.Cond.before (Jvm.Cond.constant "com/example/semblance/semblance/distance/EditDistanceProfilePinLaw" (8 : Nat) (1114112 : Int32)) a0 Z = true := hw _ (List.mem_of_getElem? (i := 5) rfl)
theorem t6 {a0 : Array Value} {Z : State} (hw : ∀ d ∈ tables_1, d.before a0 Z = true) : Jvm.Cond.before (Jvm.Cond.arrayClass Jvm.ClassFile.FieldType.int) a0 Z = true := hw _ (List.mem_of_getElem? (i := 6) rfl)
theorem t7 {a0 : Array Value} {Z : State} (hw : ∀ d ∈ tables_1, d.before a0 Z = true) : Jvm.Cond.before (Jvm.Cond.methodLink "com/example/semblance/semblance/distance/EditDistanceProfilePinLaw" (19 : Nat) ({ cls := "com/example/semblance/semblance/distance/EditDistance", name := "profile", desc := "([I)J" } : Jvm.MethodName)) a0 Z = true := hw _ (List.mem_of_getElem? (i := 7) rfl)
theorem t8 {a0 : Array Value} {Z : State} (hw : ∀ d ∈ tables_1, d.before a0 Z = true) : Jvm.Cond.before (Jvm.Cond.static ({ cls := "com/example/semblance/semblance/distance/EditDistance", name := "profile", desc := "([I)J" } : Jvm.MethodName)) a0 Z = true := hw _ (List.mem_of_getElem? (i := 8) rfl)
theorem t9 {a0 : Array Value} {Z : State} (hw : ∀ d ∈ tables_1, d.before a0 Z = true) : Jvm.Cond.before (Jvm.Cond.initialized "com/example/semblance/semblance/distance/EditDistance") a0 Z = true := hw _ (List.mem_of_getElem? (i := 9) rfl)
theorem t10 {a0 : Array Value} {Z : State} (hw : ∀ d ∈ tables_1, d.before a0 Z = true) : Jvm.Cond.before (Jvm.Cond.code ({ cls := "com/example/semblance/semblance/distance/EditDistance", name := "profile", desc := "([I)J" } : Jvm.MethodName) prog_45_method_4_code (9 : Nat) (Option.some Jvm.ClassFile.FieldType.long)) a0 Z = true := hw _ (List.mem_of_getElem? (i := 10) rfl)
theorem t11 {a0 : Array Value} {Z : State} (hw : ∀ d ∈ tables_1, d.before a0 Z = true) : Jvm.Cond.before (Jvm.Cond.methodLink "com/example/semblance/semblance/distance/EditDistanceProfilePinLaw" (15 : Nat) ({ cls := "com/example/semblance/semblance/distance/EditDistanceProfilePinLaw", name := "bits", desc := "(IZ)J" } : Jvm.MethodName)) a0 Z = true := hw _ (List.mem_of_getElem? (i := 11) rfl)
theorem t12 {a0 : Array Value} {Z : State} (hw : ∀ d ∈ tables_1, d.before a0 Z = true) : Jvm.Cond.before (Jvm.Cond.static ({ cls := "com/example/semblance/semblance/distance/EditDistanceProfilePinLaw", name := "bits", desc := "(IZ)J" } : Jvm.MethodName)) a0 Z = true := hw _ (List.mem_of_getElem? (i := 12) rfl)
theorem t13 {a0 : Array Value} {Z : State} (hw : ∀ d ∈ tables_1, d.before a0 Z = true) : Jvm.Cond.before (Jvm.Cond.code ({ cls := "com/example/semblance/semblance/distance/EditDistanceProfilePinLaw", name := "bits", desc := "(IZ)J" } : Jvm.MethodName) method_3_code (4 : Nat) (Option.some Jvm.ClassFile.FieldType.long)) a0 Z = true := hw _ (List.mem_of_getElem? (i := 13) rfl)
theorem pd0 : parseMethodDescriptor "(I)I" = some ⟨[.int], some .int⟩ := by decide +kernel
theorem pd1 : parseMethodDescriptor "([I)J" = some ⟨[(.array .int)], some .long⟩ := by decide +kernel
theorem pd2 : parseMethodDescriptor "(IZ)J" = some ⟨[.int, .boolean], some .long⟩ := by decide +kernel
theorem pn0 : plainName "com/example/semblance/semblance/distance/EditDistanceProfilePinLaw" = true := by first | (simp [plainName, overriddenIn]; done) | decide +kernel
theorem pn1 : plainName "com/example/semblance/semblance/distance/EditDistance" = true := by first | (simp [plainName, overriddenIn]; done) | decide +kernel
/-! the plain law: the profile's bits -/
def oB (q : Int32) : Int64 := ((1 : Int64) <<< (((2 : Int32) * q) &&& 0x3f).toInt64)
def dB (q : Int32) : Int64 := ((1 : Int64) <<< ((((2 : Int32) * q) + (1 : Int32)) &&& 0x3f).toInt64)
def up1 (x : Int64) : Int64 := (x <<< ((1 : Int32) &&& 0x3f).toInt64)
def stp (P : Int64) (q : Int32) : Int64 := (P ||| ((oB q) ||| up1 (P &&& (oB q))))
def bitsF (q t : Int32) : Int64 := if t = (0 : Int32) then oB q else ((oB q) ||| (dB q))
theorem oB_oB : ∀ i j : Fin 32, (oB (Int32.ofNat i.val) &&& oB (Int32.ofNat j.val)) = if i = j then oB (Int32.ofNat i.val) else 0 := by decide +kernel
theorem dB_oB : ∀ i j : Fin 32, (dB (Int32.ofNat i.val) &&& oB (Int32.ofNat j.val)) = 0 := by decide +kernel
theorem up_oB : ∀ i : Fin 32, up1 (oB (Int32.ofNat i.val)) = dB (Int32.ofNat i.val) := by decide +kernel
theorem own_ofNat_inj {i j : Fin 32} (h : Int32.ofNat i.val = Int32.ofNat j.val) : i = j := by
  have q := congrArg Int32.toInt h
  rw [Int32.toInt_ofNat_of_lt (by omega), Int32.toInt_ofNat_of_lt (by omega)] at q
  exact Fin.ext (by omega)
theorem up1_or (a b : Int64) : up1 (a ||| b) = up1 a ||| up1 b := by
  unfold up1
  apply Int64.toBitVec_inj.mp
  simp [BitVec.shiftLeft_or_distrib]
theorem up1_zero : up1 0 = 0 := by decide
theorem or_and64 (a b x : Int64) : (a ||| b) &&& x = (a &&& x) ||| (b &&& x) := by
  apply Int64.toBitVec_inj.mp
  apply BitVec.eq_of_getLsbD_eq
  intro i hi
  simp [Bool.and_or_distrib_right]
/-- a class: 0 to 31 -/
def Cls (c : Int32) : Prop := 0 ≤ c.toInt ∧ c.toInt < 32
theorem own_fin32 {c : Int32} (h : Cls c) : ∃ k : Fin 32, c = Int32.ofNat k.val := by
  obtain ⟨h1, h2⟩ := h
  refine ⟨⟨c.toInt.toNat, by omega⟩, Int32.toInt_inj.mp ?_⟩
  rw [Int32.toInt_ofNat_of_lt (by show c.toInt.toNat < 2 ^ 31; omega)]
  show c.toInt = (c.toInt.toNat : Int)
  omega
def eB (a b : Int32) : Int64 := if a = b then dB b else 0
theorem up_and {a b : Int32} (ha : Cls a) (hb : Cls b) : up1 (oB a &&& oB b) = eB a b := by
  obtain ⟨i, rfl⟩ := own_fin32 ha
  obtain ⟨j, rfl⟩ := own_fin32 hb
  rw [oB_oB i j]
  by_cases q : i = j
  · subst q; simp [eB, up_oB]
  · have : ¬ Int32.ofNat i.val = Int32.ofNat j.val := fun z => q (own_ofNat_inj z)
    simp only [q, this, eB, if_false]; exact up1_zero
theorem up_dand {a b : Int32} (ha : Cls a) (hb : Cls b) : up1 (dB a &&& oB b) = 0 := by
  obtain ⟨i, rfl⟩ := own_fin32 ha
  obtain ⟨j, rfl⟩ := own_fin32 hb
  rw [dB_oB i j]; exact up1_zero
theorem zero_and64 (x : Int64) : (0 : Int64) &&& x = 0 := by apply Int64.toBitVec_inj.mp; simp
theorem up_eand {a b c : Int32} (hb : Cls b) (hc : Cls c) : up1 (eB a b &&& oB c) = 0 := by
  unfold eB
  split
  · exact up_dand hb hc
  · rw [zero_and64]; exact up1_zero
theorem or0 (x : Int64) : x ||| 0 = x := by apply Int64.toBitVec_inj.mp; simp
theorem zero_or (x : Int64) : (0 : Int64) ||| x = x := by apply Int64.toBitVec_inj.mp; simp
theorem or_idem (x : Int64) : x ||| x = x := by apply Int64.toBitVec_inj.mp; simp
theorem or_left (x y z : Int64) : x ||| (y ||| z) = y ||| (x ||| z) := by rw [← Int64.or_assoc, Int64.or_comm x y, Int64.or_assoc]
theorem or_idem' (x y : Int64) : x ||| (x ||| y) = x ||| y := by rw [← Int64.or_assoc, or_idem]
theorem stp1 (a : Int32) : stp 0 a = oB a := by
  unfold stp; rw [zero_and64, up1_zero, or0, zero_or]
theorem stp2 {a b : Int32} (ha : Cls a) (hb : Cls b) : stp (stp 0 a) b = oB a ||| (oB b ||| eB a b) := by
  rw [stp1]; unfold stp; rw [up_and ha hb]
theorem stp3 {a b c : Int32} (ha : Cls a) (hb : Cls b) (hc : Cls c) : stp (stp (stp 0 a) b) c = (oB a ||| (oB b ||| eB a b)) ||| (oB c ||| (eB a c ||| eB b c)) := by
  rw [stp2 ha hb]; unfold stp; rw [or_and64, or_and64, up1_or, up1_or, up_and ha hc, up_and hb hc, up_eand hb hc, or0]
theorem stp4 {a b c d : Int32} (ha : Cls a) (hb : Cls b) (hc : Cls c) (hd : Cls d) : stp (stp (stp (stp 0 a) b) c) d = ((oB a ||| (oB b ||| eB a b)) ||| (oB c ||| (eB a c ||| eB b c))) ||| (oB d ||| ((eB a d ||| eB b d) ||| eB c d)) := by
  rw [stp3 ha hb hc]; unfold stp
  rw [or_and64, or_and64 (oB a), or_and64 (oB b), or_and64 (oB c), or_and64 (eB a c), up1_or, up1_or, up1_or, up1_or, up1_or, up_and ha hd, up_and hb hd, up_and hc hd, up_eand hb hd, up_eand hc hd, up_eand hc hd, or0, or0, or0]
def tw (P : Prop) [Decidable P] : Int32 := if P then (1 : Int32) else (0 : Int32)
theorem bits_tw (c : Int32) (P : Prop) [Decidable P] : bitsF c (tw P) = oB c ||| (if P then dB c else 0) := by
  unfold bitsF tw
  by_cases h : P <;> simp [h, or0]
theorem own_law1 (a : Int32) : stp 0 a = ((0 : Int64) ||| bitsF a (0 : Int32)) := by rw [stp1, zero_or]; simp [bitsF]
theorem own_law2 {a b : Int32} (ha : Cls a) (hb : Cls b) : stp (stp 0 a) b = (((0 : Int64) ||| bitsF a (tw (b = a))) ||| bitsF b (tw (a = b))) := by
  rw [stp2 ha hb, bits_tw, bits_tw, zero_or]
  by_cases h1 : a = b
  · subst h1; simp [eB, or0, Int64.or_assoc, Int64.or_comm, or_left, or_idem, or_idem']
  · simp [eB, h1, Ne.symm h1, or0, Int64.or_assoc, Int64.or_comm, or_left, or_idem, or_idem']
theorem own_law3 {a b c : Int32} (ha : Cls a) (hb : Cls b) (hc : Cls c) : stp (stp (stp 0 a) b) c = ((((0 : Int64) ||| bitsF a (tw (b = a ∨ c = a))) ||| bitsF b (tw (a = b ∨ c = b))) ||| bitsF c (tw (a = c ∨ b = c))) := by
  rw [stp3 ha hb hc, bits_tw, bits_tw, bits_tw, zero_or]
  by_cases h1 : a = b
  · subst h1
    by_cases h2 : a = c
    · subst h2; simp [eB, or0, Int64.or_assoc, Int64.or_comm, or_left, or_idem, or_idem']
    · simp [eB, h2, Ne.symm h2, or0, Int64.or_assoc, Int64.or_comm, or_left, or_idem, or_idem']
  · by_cases h2 : a = c
    · subst h2; simp [eB, h1, Ne.symm h1, or0, Int64.or_assoc, Int64.or_comm, or_left, or_idem, or_idem']
    · by_cases h3 : b = c
      · subst h3; simp [eB, h1, h2, Ne.symm h1, Ne.symm h2, or0, Int64.or_assoc, Int64.or_comm, or_left, or_idem, or_idem']
      · simp [eB, h1, h2, h3, Ne.symm h1, Ne.symm h2, Ne.symm h3, or0, Int64.or_assoc, Int64.or_comm, or_left, or_idem, or_idem']
theorem own_law4 {a b c d : Int32} (ha : Cls a) (hb : Cls b) (hc : Cls c) (hd : Cls d) : stp (stp (stp (stp 0 a) b) c) d = (((((0 : Int64) ||| bitsF a (tw (b = a ∨ c = a ∨ d = a))) ||| bitsF b (tw (a = b ∨ c = b ∨ d = b))) ||| bitsF c (tw (a = c ∨ b = c ∨ d = c))) ||| bitsF d (tw (a = d ∨ b = d ∨ c = d))) := by
  rw [stp4 ha hb hc hd, bits_tw, bits_tw, bits_tw, bits_tw, zero_or]
  by_cases h1 : a = b
  · subst h1
    by_cases h2 : a = c
    · subst h2
      by_cases h3 : a = d
      · subst h3; simp [eB, or0, Int64.or_assoc, Int64.or_comm, or_left, or_idem, or_idem']
      · simp [eB, h3, Ne.symm h3, or0, Int64.or_assoc, Int64.or_comm, or_left, or_idem, or_idem']
    · by_cases h3 : a = d
      · subst h3; simp [eB, h2, Ne.symm h2, or0, Int64.or_assoc, Int64.or_comm, or_left, or_idem, or_idem']
      · by_cases h4 : c = d
        · subst h4; simp [eB, h2, h3, Ne.symm h2, Ne.symm h3, or0, Int64.or_assoc, Int64.or_comm, or_left, or_idem, or_idem']
        · simp [eB, h2, h3, h4, Ne.symm h2, Ne.symm h3, Ne.symm h4, or0, Int64.or_assoc, Int64.or_comm, or_left, or_idem, or_idem']
  · by_cases h2 : a = c
    · subst h2
      by_cases h3 : a = d
      · subst h3; simp [eB, h1, Ne.symm h1, or0, Int64.or_assoc, Int64.or_comm, or_left, or_idem, or_idem']
      · by_cases h4 : b = d
        · subst h4; simp [eB, h1, h3, Ne.symm h1, Ne.symm h3, or0, Int64.or_assoc, Int64.or_comm, or_left, or_idem, or_idem']
        · simp [eB, h1, h3, h4, Ne.symm h1, Ne.symm h3, Ne.symm h4, or0, Int64.or_assoc, Int64.or_comm, or_left, or_idem, or_idem']
    · by_cases h3 : b = c
      · subst h3
        by_cases h4 : a = d
        · subst h4; simp [eB, h1, Ne.symm h1, or0, Int64.or_assoc, Int64.or_comm, or_left, or_idem, or_idem']
        · by_cases h5 : b = d
          · subst h5; simp [eB, h1, h4, Ne.symm h1, Ne.symm h4, or0, Int64.or_assoc, Int64.or_comm, or_left, or_idem, or_idem']
          · simp [eB, h1, h4, h5, Ne.symm h1, Ne.symm h4, Ne.symm h5, or0, Int64.or_assoc, Int64.or_comm, or_left, or_idem, or_idem']
      · by_cases h4 : a = d
        · subst h4; simp [eB, h1, h2, h3, Ne.symm h1, Ne.symm h2, Ne.symm h3, or0, Int64.or_assoc, Int64.or_comm, or_left, or_idem, or_idem']
        · by_cases h5 : b = d
          · subst h5; simp [eB, h1, h2, h3, h4, Ne.symm h1, Ne.symm h2, Ne.symm h3, Ne.symm h4, or0, Int64.or_assoc, Int64.or_comm, or_left, or_idem, or_idem']
          · by_cases h6 : c = d
            · subst h6; simp [eB, h1, h2, h3, h4, h5, Ne.symm h1, Ne.symm h2, Ne.symm h3, Ne.symm h4, Ne.symm h5, or0, Int64.or_assoc, Int64.or_comm, or_left, or_idem, or_idem']
            · simp [eB, h1, h2, h3, h4, h5, h6, Ne.symm h1, Ne.symm h2, Ne.symm h3, Ne.symm h4, Ne.symm h5, Ne.symm h6, or0, Int64.or_assoc, Int64.or_comm, or_left, or_idem, or_idem']
theorem own_cls {q : Int32} (h : 0 ≤ q.toInt) : Cls (q % (32 : Int32)) := by
  have e := (c_irem q 32 32 rfl).1 h
  unfold Cls; rw [e]; omega
theorem own_oq {q : Int32} (h : 0 ≤ q.toInt) : oB q = oB (q % (32 : Int32)) := by
  have e := (c_irem q 32 32 rfl).1 h
  have f : ((2 : Int32) * q) &&& (0x3f : Int32) = ((2 : Int32) * (q % (32 : Int32))) &&& 0x3f := by
    apply Int32.toInt_inj.mp
    rw [c_mask _ 0x3f 6 (by decide) (by decide), c_mask _ 0x3f 6 (by decide) (by decide)]
    have a := c_imul 2 q
    have b := c_imul 2 (q % (32 : Int32))
    rw [e] at b
    simp only [Int32.reduceToInt] at a b
    show _ % (64 : Int) = _ % (64 : Int)
    omega
  unfold oB; rw [f]
theorem own_stp {P : Int64} {q : Int32} (h : 0 ≤ q.toInt) : stp P q = stp P (q % (32 : Int32)) := by unfold stp; rw [own_oq h]
theorem own_cp (x : Int32) : 0 ≤ ((x &&& (2147483647 : Int32)) % (1114112 : Int32)).toInt := by
  have e := c_mask x 2147483647 31 (by decide) (by decide)
  have f := (c_irem (x &&& (2147483647 : Int32)) 1114112 1114112 rfl).1 (by omega)
  rw [f]; omega
theorem own_n5 (x : Int32) : ((x &&& (2147483647 : Int32)) % (5 : Int32)) = 0 ∨ ((x &&& (2147483647 : Int32)) % (5 : Int32)) = 1 ∨ ((x &&& (2147483647 : Int32)) % (5 : Int32)) = 2 ∨ ((x &&& (2147483647 : Int32)) % (5 : Int32)) = 3 ∨ ((x &&& (2147483647 : Int32)) % (5 : Int32)) = 4 := by
  have e := c_mask x 2147483647 31 (by decide) (by decide)
  have f := (c_irem (x &&& (2147483647 : Int32)) 5 5 rfl).1 (by omega)
  simp only [← Int32.toInt_inj, f, Int32.reduceToInt]
  omega
/-- what the loop makes of a text -/
def prof : List Int32 → Int64 → Int64
  | [], P => P
  | q :: qs, P => prof qs (stp P q)
theorem own_ofNat {i : Nat} (h : i < 2 ^ 31) : (Int32.ofNat i).toInt = i := Int32.toInt_ofNat_of_lt h
theorem own_inc (i : Nat) : Int32.ofNat i + (1 : Int32) = Int32.ofNat (i + 1) := by
  rw [Int32.ofNat_add]; rfl
theorem own_irrefl (x : Int32) : ¬ x < x := by rw [Int32.lt_iff_toInt_lt]; omega
theorem d1_0 : decode method_2_code 0 = .ok (.iload_n 0, 1) := by decide +kernel
theorem d1_1 : decode method_2_code 1 = .ok (.ldc 7, 2) := by decide +kernel
theorem d1_3 : decode method_2_code 3 = .ok (.iand, 1) := by decide +kernel
theorem d1_4 : decode method_2_code 4 = .ok (.ldc 8, 2) := by decide +kernel
theorem d1_6 : decode method_2_code 6 = .ok (.irem, 1) := by decide +kernel
theorem d1_7 : decode method_2_code 7 = .ok (.ireturn, 1) := by decide +kernel
set_option maxRecDepth 65536 in
set_option maxHeartbeats 40000000 in
theorem con_cp (l : Launch) (Z : State) (a0 : Array Value) (hw : ∀ d ∈ tables_1, d.before a0 Z = true) (ws : List Jvm.Cond) (h0 : Heap) (n0 : Nat) (x : Int32) :
    Con l (⟨"com/example/semblance/semblance/distance/EditDistanceProfilePinLaw", "cp", "(I)I"⟩ : MethodName) method_2_code 1 (some .int) ({ frames := 0, cells := 0, slots := 0, locals := 0 } : Room) ws Z #[(.int x)] h0 n0 (fun v h => v = some (.int ((x &&& (2147483647 : Int32)) % (1114112 : Int32))) ∧ h0 = h) := by
  refine Con.of (plainFor_of_name pn0) ?_
  intro p e s m below meth c T X nm
  rw [show entryFrame m #[(.int x)] 1 = mkF m 0 #[.val (.int x)] [] from by (first | (simp [entryFrame, mkF, argsToLocals, Value.category]; done) | rfl)]
  refine Wk.iloadN X d1_0 1 rfl rfl ?_
  refine Wk.ldcInt X (t0 hw) d1_1 3 rfl ?_
  refine Wk.iand X d1_3 4 rfl ?_
  refine Wk.ldcInt X (t5 hw) d1_4 6 rfl ?_
  refine Wk.irem X d1_6 7 rfl (by decide) ?_
  exact Wk.ireturn X d1_7 (by decide) (by decide) ⟨rfl, rfl⟩
theorem d7_0 : decode method_3_code 0 = .ok (.lconst 1, 1) := by decide +kernel
theorem d7_1 : decode method_3_code 1 = .ok (.iconst 2, 1) := by decide +kernel
theorem d7_2 : decode method_3_code 2 = .ok (.iload_n 0, 1) := by decide +kernel
theorem d7_3 : decode method_3_code 3 = .ok (.imul, 1) := by decide +kernel
theorem d7_4 : decode method_3_code 4 = .ok (.lshl, 1) := by decide +kernel
theorem d7_5 : decode method_3_code 5 = .ok (.lstore_n 2, 1) := by decide +kernel
theorem d7_6 : decode method_3_code 6 = .ok (.iload_n 1, 1) := by decide +kernel
theorem d7_7 : decode method_3_code 7 = .ok (.ifCond .eq 13, 3) := by decide +kernel
theorem d7_10 : decode method_3_code 10 = .ok (.lload_n 2, 1) := by decide +kernel
theorem d7_11 : decode method_3_code 11 = .ok (.lconst 1, 1) := by decide +kernel
theorem d7_12 : decode method_3_code 12 = .ok (.iconst 2, 1) := by decide +kernel
theorem d7_13 : decode method_3_code 13 = .ok (.iload_n 0, 1) := by decide +kernel
theorem d7_14 : decode method_3_code 14 = .ok (.imul, 1) := by decide +kernel
theorem d7_15 : decode method_3_code 15 = .ok (.iconst 1, 1) := by decide +kernel
theorem d7_16 : decode method_3_code 16 = .ok (.iadd, 1) := by decide +kernel
theorem d7_17 : decode method_3_code 17 = .ok (.lshl, 1) := by decide +kernel
theorem d7_18 : decode method_3_code 18 = .ok (.lor, 1) := by decide +kernel
theorem d7_19 : decode method_3_code 19 = .ok (.lreturn, 1) := by decide +kernel
theorem d7_20 : decode method_3_code 20 = .ok (.lload_n 2, 1) := by decide +kernel
theorem d7_21 : decode method_3_code 21 = .ok (.lreturn, 1) := by decide +kernel
set_option maxRecDepth 65536 in
set_option maxHeartbeats 40000000 in
theorem con_bits (l : Launch) (Z : State) (a0 : Array Value) (hw : ∀ d ∈ tables_1, d.before a0 Z = true) (ws : List Jvm.Cond) (h0 : Heap) (n0 : Nat) (x t : Int32) :
    Con l (⟨"com/example/semblance/semblance/distance/EditDistanceProfilePinLaw", "bits", "(IZ)J"⟩ : MethodName) method_3_code 4 (some .long) ({ frames := 0, cells := 0, slots := 0, locals := 0 } : Room) ws Z #[(.int x), (.int t)] h0 n0 (fun v h => v = some (.long (bitsF x t)) ∧ h0 = h) := by
  refine Con.of (plainFor_of_name pn0) ?_
  intro p e s m below meth c T X nm
  rw [show entryFrame m #[(.int x), (.int t)] 4 = mkF m 0 #[.val (.int x), .val (.int t), .unset, .unset] [] from by (first | (simp [entryFrame, mkF, argsToLocals, Value.category]; done) | rfl)]
  refine Wk.lconst X d7_0 1 rfl (1 : Int64) rfl ?_
  refine Wk.iconst X d7_1 2 rfl (2 : Int32) rfl ?_
  refine Wk.iloadN X d7_2 3 rfl rfl ?_
  refine Wk.imul X d7_3 4 rfl ?_
  refine Wk.lshl X d7_4 5 rfl ?_
  refine Wk.lstoreN X d7_5 6 rfl #[.val (.int x), .val (.int t), .val (.long ((1 : Int64) <<< (((2 : Int32) * x) &&& 0x3f).toInt64)), .second] rfl ?_
  refine Wk.iloadN X d7_6 7 rfl rfl ?_
  refine Wk.ifc X d7_7 20 10 (by decide) rfl ?_ ?_
  · intro hc; change t = (0 : Int32) at hc
    refine Wk.lloadN X d7_20 21 rfl rfl ?_
    exact Wk.lreturn X d7_21 (by decide) (by decide) ⟨by rw [show bitsF x t = oB x from by simp [bitsF, hc]]; rfl, rfl⟩
  · intro hc; change ¬ t = (0 : Int32) at hc
    refine Wk.lloadN X d7_10 11 rfl rfl ?_
    refine Wk.lconst X d7_11 12 rfl (1 : Int64) rfl ?_
    refine Wk.iconst X d7_12 13 rfl (2 : Int32) rfl ?_
    refine Wk.iloadN X d7_13 14 rfl rfl ?_
    refine Wk.imul X d7_14 15 rfl ?_
    refine Wk.iconst X d7_15 16 rfl (1 : Int32) rfl ?_
    refine Wk.iadd X d7_16 17 rfl ?_
    refine Wk.lshl X d7_17 18 rfl ?_
    refine Wk.lor X d7_18 19 rfl ?_
    exact Wk.lreturn X d7_19 (by decide) (by decide) ⟨by rw [show bitsF x t = (oB x ||| dB x) from by simp [bitsF, hc]]; rfl, rfl⟩
theorem d4_0 : decode prog_45_method_4_code 0 = .ok (.lconst 0, 1) := by decide +kernel
theorem d4_1 : decode prog_45_method_4_code 1 = .ok (.lstore_n 1, 1) := by decide +kernel
theorem d4_2 : decode prog_45_method_4_code 2 = .ok (.aload_n 0, 1) := by decide +kernel
theorem d4_3 : decode prog_45_method_4_code 3 = .ok (.astore_n 3, 1) := by decide +kernel
theorem d4_4 : decode prog_45_method_4_code 4 = .ok (.aload_n 3, 1) := by decide +kernel
theorem d4_5 : decode prog_45_method_4_code 5 = .ok (.arraylength, 1) := by decide +kernel
theorem d4_6 : decode prog_45_method_4_code 6 = .ok (.istore 4, 2) := by decide +kernel
theorem d4_8 : decode prog_45_method_4_code 8 = .ok (.iconst 0, 1) := by decide +kernel
theorem d4_9 : decode prog_45_method_4_code 9 = .ok (.istore 5, 2) := by decide +kernel
theorem d4_11 : decode prog_45_method_4_code 11 = .ok (.iload 5, 2) := by decide +kernel
theorem d4_13 : decode prog_45_method_4_code 13 = .ok (.iload 4, 2) := by decide +kernel
theorem d4_15 : decode prog_45_method_4_code 15 = .ok (.if_icmp .ge 35, 3) := by decide +kernel
theorem d4_18 : decode prog_45_method_4_code 18 = .ok (.aload_n 3, 1) := by decide +kernel
theorem d4_19 : decode prog_45_method_4_code 19 = .ok (.iload 5, 2) := by decide +kernel
theorem d4_21 : decode prog_45_method_4_code 21 = .ok (.iaload, 1) := by decide +kernel
theorem d4_22 : decode prog_45_method_4_code 22 = .ok (.istore 6, 2) := by decide +kernel
theorem d4_24 : decode prog_45_method_4_code 24 = .ok (.lconst 1, 1) := by decide +kernel
theorem d4_25 : decode prog_45_method_4_code 25 = .ok (.iconst 2, 1) := by decide +kernel
theorem d4_26 : decode prog_45_method_4_code 26 = .ok (.iload 6, 2) := by decide +kernel
theorem d4_28 : decode prog_45_method_4_code 28 = .ok (.imul, 1) := by decide +kernel
theorem d4_29 : decode prog_45_method_4_code 29 = .ok (.lshl, 1) := by decide +kernel
theorem d4_30 : decode prog_45_method_4_code 30 = .ok (.lstore 7, 2) := by decide +kernel
theorem d4_32 : decode prog_45_method_4_code 32 = .ok (.lload_n 1, 1) := by decide +kernel
theorem d4_33 : decode prog_45_method_4_code 33 = .ok (.lload 7, 2) := by decide +kernel
theorem d4_35 : decode prog_45_method_4_code 35 = .ok (.lload_n 1, 1) := by decide +kernel
theorem d4_36 : decode prog_45_method_4_code 36 = .ok (.lload 7, 2) := by decide +kernel
theorem d4_38 : decode prog_45_method_4_code 38 = .ok (.land, 1) := by decide +kernel
theorem d4_39 : decode prog_45_method_4_code 39 = .ok (.iconst 1, 1) := by decide +kernel
theorem d4_40 : decode prog_45_method_4_code 40 = .ok (.lshl, 1) := by decide +kernel
theorem d4_41 : decode prog_45_method_4_code 41 = .ok (.lor, 1) := by decide +kernel
theorem d4_42 : decode prog_45_method_4_code 42 = .ok (.lor, 1) := by decide +kernel
theorem d4_43 : decode prog_45_method_4_code 43 = .ok (.lstore_n 1, 1) := by decide +kernel
theorem d4_44 : decode prog_45_method_4_code 44 = .ok (.iinc 5 1, 3) := by decide +kernel
theorem d4_47 : decode prog_45_method_4_code 47 = .ok (.goto (-36), 3) := by decide +kernel
theorem d4_50 : decode prog_45_method_4_code 50 = .ok (.lload_n 1, 1) := by decide +kernel
theorem d4_51 : decode prog_45_method_4_code 51 = .ok (.lreturn, 1) := by decide +kernel
set_option maxRecDepth 65536 in
set_option maxHeartbeats 40000000 in
theorem con_profile (l : Launch) (Z : State) (a0 : Array Value) (hw : ∀ d ∈ tables_1, d.before a0 Z = true) (ws : List Jvm.Cond) (h0 : Heap) (n0 : Nat) (a1 : Addr) (qs : List Int32) (A : Arl Z h0 a1 .int (qs.map Value.int)) :
    Con l (⟨"com/example/semblance/semblance/distance/EditDistance", "profile", "([I)J"⟩ : MethodName) prog_45_method_4_code 9 (some .long) ({ frames := 0, cells := 0, slots := 0, locals := 0 } : Room) ws Z #[(.ref a1)] h0 n0 (fun v h => v = some (.long (prof qs 0)) ∧ h0 = h) := by
  refine Con.of (plainFor_of_name pn1) ?_
  intro p e s m below meth c T X nm
  rw [show entryFrame m #[(.ref a1)] 9 = mkF m 0 #[.val (.ref a1), .unset, .unset, .unset, .unset, .unset, .unset, .unset, .unset] [] from by (first | (simp [entryFrame, mkF, argsToLocals, Value.category]; done) | rfl)]
  refine Wk.lconst X d4_0 1 rfl (0 : Int64) rfl ?_
  refine Wk.lstoreN X d4_1 2 rfl #[.val (.ref a1), .val (.long (0 : Int64)), .second, .unset, .unset, .unset, .unset, .unset, .unset] rfl ?_
  refine Wk.aloadN X d4_2 3 rfl rfl rfl ?_
  refine Wk.astoreN X d4_3 4 rfl #[.val (.ref a1), .val (.long (0 : Int64)), .second, .val (.ref a1), .unset, .unset, .unset, .unset, .unset] rfl rfl ?_
  refine Wk.aloadN X d4_4 5 rfl rfl rfl ?_
  refine Wk.arraylength X A d4_5 6 rfl (Int32.ofNat qs.length) (by simp) ?_
  refine Wk.istore X d4_6 8 rfl #[.val (.ref a1), .val (.long (0 : Int64)), .second, .val (.ref a1), .val (.int (Int32.ofNat qs.length)), .unset, .unset, .unset, .unset] rfl ?_
  refine Wk.iconst X d4_8 9 rfl (0 : Int32) rfl ?_
  refine Wk.istore X d4_9 11 rfl #[.val (.ref a1), .val (.long (0 : Int64)), .second, .val (.ref a1), .val (.int (Int32.ofNat qs.length)), .val (.int (0 : Int32)), .unset, .unset, .unset] rfl ?_
  have la : qs.length < 2 ^ 31 := by simpa using A.len
  have loop : ∀ (k i : Nat) (P : Int64) (u : Int32) (o : Int64), qs.length - i ≤ k → i ≤ qs.length → prof (qs.drop i) P = prof qs 0 → Wk p.tables e below (Gl s n0 (fun v h => v = some (.long (prof qs 0)) ∧ h0 = h) 0 0) (T.setTop (mkF m 11 #[.val (.ref a1), .val (.long P), .second, .val (.ref a1), .val (.int (Int32.ofNat qs.length)), .val (.int (Int32.ofNat i)), .val (.int u), .val (.long o), .second] [])) := by
    intro k
    induction k with
    | zero =>
      intro i P u o hk hi hS
      refine Wk.iload X d4_11 13 rfl rfl ?_
      refine Wk.iload X d4_13 15 rfl rfl ?_
      refine Wk.icmpT X d4_15 50 (by decide) (show ¬ (Int32.ofNat i) < (Int32.ofNat qs.length) from (by rw [show i = qs.length from by omega]; exact own_irrefl _)) ?_
      have h1 : ¬ Int32.ofNat i < Int32.ofNat qs.length := by rw [show i = qs.length from by omega]; exact own_irrefl _
      have hge : qs.length ≤ i := by rw [Int32.lt_iff_toInt_lt, own_ofNat (by omega), own_ofNat la] at h1; omega
      have hd : P = prof qs 0 := by rw [← hS, show qs.drop i = [] from List.drop_eq_nil_of_le hge]; rfl
      refine Wk.lloadN X d4_50 51 rfl rfl ?_
      exact Wk.lreturn X d4_51 (by decide) (by decide) ⟨by rw [hd], rfl⟩
    | succ k ih =>
      intro i P u o hk hi hS
      refine Wk.iload X d4_11 13 rfl rfl ?_
      refine Wk.iload X d4_13 15 rfl rfl ?_
      refine Wk.icmp X d4_15 50 18 (by decide) rfl ?_ ?_
      · intro h1; change ¬ (Int32.ofNat i) < (Int32.ofNat qs.length) at h1
        have hge : qs.length ≤ i := by rw [Int32.lt_iff_toInt_lt, own_ofNat (by omega), own_ofNat la] at h1; omega
        have hd : P = prof qs 0 := by rw [← hS, show qs.drop i = [] from List.drop_eq_nil_of_le hge]; rfl
        refine Wk.lloadN X d4_50 51 rfl rfl ?_
        exact Wk.lreturn X d4_51 (by decide) (by decide) ⟨by rw [hd], rfl⟩
      · intro h1; change (Int32.ofNat i) < (Int32.ofNat qs.length) at h1
        have hlt : i < qs.length := by rw [Int32.lt_iff_toInt_lt, own_ofNat (by omega), own_ofNat la] at h1; omega
        obtain ⟨x, hx⟩ : ∃ x, x = qs[i] := ⟨_, rfl⟩
        have qi : (qs.map Value.int)[i]? = some (.int x) := by simp [hx, hlt]
        have di : qs.drop i = x :: qs.drop (i + 1) := by rw [hx]; exact List.drop_eq_getElem_cons hlt
        refine Wk.aloadN X d4_18 19 rfl rfl rfl ?_
        refine Wk.iload X d4_19 21 rfl rfl ?_
        refine Wk.iaload X A i (own_ofNat (by omega)) qi d4_21 22 rfl ?_
        refine Wk.istore X d4_22 24 rfl #[.val (.ref a1), .val (.long P), .second, .val (.ref a1), .val (.int (Int32.ofNat qs.length)), .val (.int (Int32.ofNat i)), .val (.int x), .val (.long o), .second] rfl ?_
        refine Wk.lconst X d4_24 25 rfl (1 : Int64) rfl ?_
        refine Wk.iconst X d4_25 26 rfl (2 : Int32) rfl ?_
        refine Wk.iload X d4_26 28 rfl rfl ?_
        refine Wk.imul X d4_28 29 rfl ?_
        refine Wk.lshl X d4_29 30 rfl ?_
        refine Wk.lstore X d4_30 32 rfl #[.val (.ref a1), .val (.long P), .second, .val (.ref a1), .val (.int (Int32.ofNat qs.length)), .val (.int (Int32.ofNat i)), .val (.int x), .val (.long ((1 : Int64) <<< (((2 : Int32) * x) &&& 0x3f).toInt64)), .second] rfl ?_
        refine Wk.lloadN X d4_32 33 rfl rfl ?_
        refine Wk.lload X d4_33 35 rfl rfl ?_
        refine Wk.lloadN X d4_35 36 rfl rfl ?_
        refine Wk.lload X d4_36 38 rfl rfl ?_
        refine Wk.land X d4_38 39 rfl ?_
        refine Wk.iconst X d4_39 40 rfl (1 : Int32) rfl ?_
        refine Wk.lshl X d4_40 41 rfl ?_
        refine Wk.lor X d4_41 42 rfl ?_
        refine Wk.lor X d4_42 43 rfl ?_
        refine Wk.lstoreN X d4_43 44 rfl #[.val (.ref a1), .val (.long (P ||| (((1 : Int64) <<< (((2 : Int32) * x) &&& 0x3f).toInt64) ||| ((P &&& ((1 : Int64) <<< (((2 : Int32) * x) &&& 0x3f).toInt64)) <<< ((1 : Int32) &&& 0x3f).toInt64)))), .second, .val (.ref a1), .val (.int (Int32.ofNat qs.length)), .val (.int (Int32.ofNat i)), .val (.int x), .val (.long ((1 : Int64) <<< (((2 : Int32) * x) &&& 0x3f).toInt64)), .second] rfl ?_
        refine Wk.iinc X d4_44 47 rfl #[.val (.ref a1), .val (.long (P ||| (((1 : Int64) <<< (((2 : Int32) * x) &&& 0x3f).toInt64) ||| ((P &&& ((1 : Int64) <<< (((2 : Int32) * x) &&& 0x3f).toInt64)) <<< ((1 : Int32) &&& 0x3f).toInt64)))), .second, .val (.ref a1), .val (.int (Int32.ofNat qs.length)), .val (.int ((Int32.ofNat i) + (1 : Int32))), .val (.int x), .val (.long ((1 : Int64) <<< (((2 : Int32) * x) &&& 0x3f).toInt64)), .second] rfl rfl ?_
        refine Wk.goto X d4_47 11 (by decide) ?_
        rw [own_inc]
        exact ih (i + 1) (stp P x) x (oB x) (by omega) (by omega) (by rw [← hS, di]; rfl)
  have first : ∀ (i : Nat) (P : Int64), i ≤ qs.length → prof (qs.drop i) P = prof qs 0 → Wk p.tables e below (Gl s n0 (fun v h => v = some (.long (prof qs 0)) ∧ h0 = h) 0 0) (T.setTop (mkF m 11 #[.val (.ref a1), .val (.long P), .second, .val (.ref a1), .val (.int (Int32.ofNat qs.length)), .val (.int (Int32.ofNat i)), .unset, .unset, .unset] [])) := by
    intro i P hi hS
    refine Wk.iload X d4_11 13 rfl rfl ?_
    refine Wk.iload X d4_13 15 rfl rfl ?_
    refine Wk.icmp X d4_15 50 18 (by decide) rfl ?_ ?_
    · intro h1; change ¬ (Int32.ofNat i) < (Int32.ofNat qs.length) at h1
      have hge : qs.length ≤ i := by rw [Int32.lt_iff_toInt_lt, own_ofNat (by omega), own_ofNat la] at h1; omega
      have hd : P = prof qs 0 := by rw [← hS, show qs.drop i = [] from List.drop_eq_nil_of_le hge]; rfl
      refine Wk.lloadN X d4_50 51 rfl rfl ?_
      exact Wk.lreturn X d4_51 (by decide) (by decide) ⟨by rw [hd], rfl⟩
    · intro h1; change (Int32.ofNat i) < (Int32.ofNat qs.length) at h1
      have hlt : i < qs.length := by rw [Int32.lt_iff_toInt_lt, own_ofNat (by omega), own_ofNat la] at h1; omega
      obtain ⟨x, hx⟩ : ∃ x, x = qs[i] := ⟨_, rfl⟩
      have qi : (qs.map Value.int)[i]? = some (.int x) := by simp [hx, hlt]
      have di : qs.drop i = x :: qs.drop (i + 1) := by rw [hx]; exact List.drop_eq_getElem_cons hlt
      refine Wk.aloadN X d4_18 19 rfl rfl rfl ?_
      refine Wk.iload X d4_19 21 rfl rfl ?_
      refine Wk.iaload X A i (own_ofNat (by omega)) qi d4_21 22 rfl ?_
      refine Wk.istore X d4_22 24 rfl #[.val (.ref a1), .val (.long P), .second, .val (.ref a1), .val (.int (Int32.ofNat qs.length)), .val (.int (Int32.ofNat i)), .val (.int x), .unset, .unset] rfl ?_
      refine Wk.lconst X d4_24 25 rfl (1 : Int64) rfl ?_
      refine Wk.iconst X d4_25 26 rfl (2 : Int32) rfl ?_
      refine Wk.iload X d4_26 28 rfl rfl ?_
      refine Wk.imul X d4_28 29 rfl ?_
      refine Wk.lshl X d4_29 30 rfl ?_
      refine Wk.lstore X d4_30 32 rfl #[.val (.ref a1), .val (.long P), .second, .val (.ref a1), .val (.int (Int32.ofNat qs.length)), .val (.int (Int32.ofNat i)), .val (.int x), .val (.long ((1 : Int64) <<< (((2 : Int32) * x) &&& 0x3f).toInt64)), .second] rfl ?_
      refine Wk.lloadN X d4_32 33 rfl rfl ?_
      refine Wk.lload X d4_33 35 rfl rfl ?_
      refine Wk.lloadN X d4_35 36 rfl rfl ?_
      refine Wk.lload X d4_36 38 rfl rfl ?_
      refine Wk.land X d4_38 39 rfl ?_
      refine Wk.iconst X d4_39 40 rfl (1 : Int32) rfl ?_
      refine Wk.lshl X d4_40 41 rfl ?_
      refine Wk.lor X d4_41 42 rfl ?_
      refine Wk.lor X d4_42 43 rfl ?_
      refine Wk.lstoreN X d4_43 44 rfl #[.val (.ref a1), .val (.long (P ||| (((1 : Int64) <<< (((2 : Int32) * x) &&& 0x3f).toInt64) ||| ((P &&& ((1 : Int64) <<< (((2 : Int32) * x) &&& 0x3f).toInt64)) <<< ((1 : Int32) &&& 0x3f).toInt64)))), .second, .val (.ref a1), .val (.int (Int32.ofNat qs.length)), .val (.int (Int32.ofNat i)), .val (.int x), .val (.long ((1 : Int64) <<< (((2 : Int32) * x) &&& 0x3f).toInt64)), .second] rfl ?_
      refine Wk.iinc X d4_44 47 rfl #[.val (.ref a1), .val (.long (P ||| (((1 : Int64) <<< (((2 : Int32) * x) &&& 0x3f).toInt64) ||| ((P &&& ((1 : Int64) <<< (((2 : Int32) * x) &&& 0x3f).toInt64)) <<< ((1 : Int32) &&& 0x3f).toInt64)))), .second, .val (.ref a1), .val (.int (Int32.ofNat qs.length)), .val (.int ((Int32.ofNat i) + (1 : Int32))), .val (.int x), .val (.long ((1 : Int64) <<< (((2 : Int32) * x) &&& 0x3f).toInt64)), .second] rfl rfl ?_
      refine Wk.goto X d4_47 11 (by decide) ?_
      rw [own_inc]
      exact loop (qs.length - (i + 1)) (i + 1) (stp P x) x (oB x) (by omega) (by omega) (by rw [← hS, di]; rfl)
  exact first 0 0 (Nat.zero_le _) rfl
set_option maxRecDepth 65536 in
set_option maxHeartbeats 40000000 in
theorem con_law (l : Launch) (Z : State) (a0 : Array Value) (hw : ∀ d ∈ tables_1, d.before a0 Z = true) (ws : List Jvm.Cond) (h0 : Heap) (n0 : Nat) (p0 p1 p2 p3 p4 : Int32) (Z0 : n0 ≤ h0.size) :
    Con l x code maxLocals ret room_1 ws Z #[(.int p0), (.int p1), (.int p2), (.int p3), (.int p4)] h0 n0 (fun v _ => v = some (.int 1)) := by
  refine Con.of (plainFor_of_name pn0) ?_
  intro p e s m below meth c T X nm
  rw [show entryFrame m #[(.int p0), (.int p1), (.int p2), (.int p3), (.int p4)] maxLocals = mkF m 0 #[.val (.int p0), .val (.int p1), .val (.int p2), .val (.int p3), .val (.int p4), .unset, .unset, .unset, .unset, .unset, .unset, .unset, .unset, .unset, .unset, .unset, .unset, .unset, .unset, .unset, .unset, .unset] [] from by (first | (simp [entryFrame, mkF, argsToLocals, Value.category, maxLocals]; done) | rfl)]
  refine Wk.iloadN X at_0 1 rfl rfl ?_
  refine Wk.ldcInt X (t0 hw) at_1 3 rfl ?_
  refine Wk.iand X at_3 4 rfl ?_
  refine Wk.iconst X at_4 5 rfl (5 : Int32) rfl ?_
  refine Wk.irem X at_5 6 rfl (by decide) ?_
  refine Wk.istore X at_6 8 rfl #[.val (.int p0), .val (.int p1), .val (.int p2), .val (.int p3), .val (.int p4), .val (.int ((p0 &&& (2147483647 : Int32)) % (5 : Int32))), .unset, .unset, .unset, .unset, .unset, .unset, .unset, .unset, .unset, .unset, .unset, .unset, .unset, .unset, .unset, .unset] rfl ?_
  have hn := own_n5 p0
  generalize ((p0 &&& (2147483647 : Int32)) % (5 : Int32)) = n at hn ⊢
  refine Wk.iloadN X at_8 9 rfl rfl ?_
  refine Wk.callS X (t1 hw) (t2 hw) (t3 hw) (t4 hw) (con_cp l Z a0 hw [] h0 n0 p1) (by decide) pd0 [(.int p1)] [] rfl rfl rfl rfl 0 (Nat.le_of_eq rfl) (by decide) (by decide) (by decide) (by decide) 0 0 rfl rfl at_9 12 rfl ?_
  rintro _ T _ X ⟨rfl, rfl⟩
  show Wk p.tables e below _ (T.setTop (mkF m 12 #[.val (.int p0), .val (.int p1), .val (.int p2), .val (.int p3), .val (.int p4), .val (.int n), .unset, .unset, .unset, .unset, .unset, .unset, .unset, .unset, .unset, .unset, .unset, .unset, .unset, .unset, .unset, .unset] [(.int ((p1 &&& (2147483647 : Int32)) % (1114112 : Int32)))]))
  have hq0 := own_cp p1
  generalize ((p1 &&& (2147483647 : Int32)) % (1114112 : Int32)) = q0 at hq0 ⊢
  refine Wk.istore X at_12 14 rfl #[.val (.int p0), .val (.int p1), .val (.int p2), .val (.int p3), .val (.int p4), .val (.int n), .val (.int q0), .unset, .unset, .unset, .unset, .unset, .unset, .unset, .unset, .unset, .unset, .unset, .unset, .unset, .unset, .unset] rfl ?_
  refine Wk.iloadN X at_14 15 rfl rfl ?_
  refine Wk.callS X (t1 hw) (t2 hw) (t3 hw) (t4 hw) (con_cp l Z a0 hw [] h0 n0 p2) (by decide) pd0 [(.int p2)] [] rfl rfl rfl rfl 0 (Nat.le_of_eq rfl) (by decide) (by decide) (by decide) (by decide) 0 0 rfl rfl at_15 18 rfl ?_
  rintro _ T _ X ⟨rfl, rfl⟩
  show Wk p.tables e below _ (T.setTop (mkF m 18 #[.val (.int p0), .val (.int p1), .val (.int p2), .val (.int p3), .val (.int p4), .val (.int n), .val (.int q0), .unset, .unset, .unset, .unset, .unset, .unset, .unset, .unset, .unset, .unset, .unset, .unset, .unset, .unset, .unset] [(.int ((p2 &&& (2147483647 : Int32)) % (1114112 : Int32)))]))
  have hq1 := own_cp p2
  generalize ((p2 &&& (2147483647 : Int32)) % (1114112 : Int32)) = q1 at hq1 ⊢
  refine Wk.istore X at_18 20 rfl #[.val (.int p0), .val (.int p1), .val (.int p2), .val (.int p3), .val (.int p4), .val (.int n), .val (.int q0), .val (.int q1), .unset, .unset, .unset, .unset, .unset, .unset, .unset, .unset, .unset, .unset, .unset, .unset, .unset, .unset] rfl ?_
  refine Wk.iloadN X at_20 21 rfl rfl ?_
  refine Wk.callS X (t1 hw) (t2 hw) (t3 hw) (t4 hw) (con_cp l Z a0 hw [] h0 n0 p3) (by decide) pd0 [(.int p3)] [] rfl rfl rfl rfl 0 (Nat.le_of_eq rfl) (by decide) (by decide) (by decide) (by decide) 0 0 rfl rfl at_21 24 rfl ?_
  rintro _ T _ X ⟨rfl, rfl⟩
  show Wk p.tables e below _ (T.setTop (mkF m 24 #[.val (.int p0), .val (.int p1), .val (.int p2), .val (.int p3), .val (.int p4), .val (.int n), .val (.int q0), .val (.int q1), .unset, .unset, .unset, .unset, .unset, .unset, .unset, .unset, .unset, .unset, .unset, .unset, .unset, .unset] [(.int ((p3 &&& (2147483647 : Int32)) % (1114112 : Int32)))]))
  have hq2 := own_cp p3
  generalize ((p3 &&& (2147483647 : Int32)) % (1114112 : Int32)) = q2 at hq2 ⊢
  refine Wk.istore X at_24 26 rfl #[.val (.int p0), .val (.int p1), .val (.int p2), .val (.int p3), .val (.int p4), .val (.int n), .val (.int q0), .val (.int q1), .val (.int q2), .unset, .unset, .unset, .unset, .unset, .unset, .unset, .unset, .unset, .unset, .unset, .unset, .unset] rfl ?_
  refine Wk.iload X at_26 28 rfl rfl ?_
  refine Wk.callS X (t1 hw) (t2 hw) (t3 hw) (t4 hw) (con_cp l Z a0 hw [] h0 n0 p4) (by decide) pd0 [(.int p4)] [] rfl rfl rfl rfl 0 (Nat.le_of_eq rfl) (by decide) (by decide) (by decide) (by decide) 0 0 rfl rfl at_28 31 rfl ?_
  rintro _ T _ X ⟨rfl, rfl⟩
  show Wk p.tables e below _ (T.setTop (mkF m 31 #[.val (.int p0), .val (.int p1), .val (.int p2), .val (.int p3), .val (.int p4), .val (.int n), .val (.int q0), .val (.int q1), .val (.int q2), .unset, .unset, .unset, .unset, .unset, .unset, .unset, .unset, .unset, .unset, .unset, .unset, .unset] [(.int ((p4 &&& (2147483647 : Int32)) % (1114112 : Int32)))]))
  have hq3 := own_cp p4
  generalize ((p4 &&& (2147483647 : Int32)) % (1114112 : Int32)) = q3 at hq3 ⊢
  refine Wk.istore X at_31 33 rfl #[.val (.int p0), .val (.int p1), .val (.int p2), .val (.int p3), .val (.int p4), .val (.int n), .val (.int q0), .val (.int q1), .val (.int q2), .val (.int q3), .unset, .unset, .unset, .unset, .unset, .unset, .unset, .unset, .unset, .unset, .unset, .unset] rfl ?_
  refine Wk.iload X at_33 35 rfl rfl ?_
  rcases hn with rfl | rfl | rfl | rfl | rfl
  · show Wk p.tables e below _ (T.setTop (mkF m 35 #[.val (.int p0), .val (.int p1), .val (.int p2), .val (.int p3), .val (.int p4), .val (.int (0 : Int32)), .val (.int q0), .val (.int q1), .val (.int q2), .val (.int q3), .unset, .unset, .unset, .unset, .unset, .unset, .unset, .unset, .unset, .unset, .unset, .unset] [(.int (0 : Int32))]))
    refine Wk.newarray (aty := .int) X (t6 hw) at_35 37 rfl 0 rfl 0 (Nat.le_refl _) (by decide) (by decide) (by decide) ?_
    intro T h1 r gr X E1 R0
    change Arl Z h1 r .int [] at R0
    have hr : n0 ≤ r := by omega
    refine Wk.astore X at_37 39 rfl #[.val (.int p0), .val (.int p1), .val (.int p2), .val (.int p3), .val (.int p4), .val (.int (0 : Int32)), .val (.int q0), .val (.int q1), .val (.int q2), .val (.int q3), .val (.ref r), .unset, .unset, .unset, .unset, .unset, .unset, .unset, .unset, .unset, .unset, .unset] rfl rfl ?_
    refine Wk.iload X at_39 41 rfl rfl ?_
    refine Wk.ifcT X at_41 50 (by decide) (show ¬ (0 : Int32) < (0 : Int32) from (by decide)) ?_
    refine Wk.iload X at_50 52 rfl rfl ?_
    refine Wk.iconst X at_52 53 rfl (1 : Int32) rfl ?_
    refine Wk.icmpT X at_53 62 (by decide) (show ¬ (1 : Int32) < (0 : Int32) from (by decide)) ?_
    refine Wk.iload X at_62 64 rfl rfl ?_
    refine Wk.iconst X at_64 65 rfl (2 : Int32) rfl ?_
    refine Wk.icmpT X at_65 74 (by decide) (show ¬ (2 : Int32) < (0 : Int32) from (by decide)) ?_
    refine Wk.iload X at_74 76 rfl rfl ?_
    refine Wk.iconst X at_76 77 rfl (3 : Int32) rfl ?_
    refine Wk.icmpT X at_77 86 (by decide) (show ¬ (3 : Int32) < (0 : Int32) from (by decide)) ?_
    refine Wk.iload X at_86 88 rfl rfl ?_
    refine Wk.bipush X at_88 90 rfl (32 : Int32) rfl ?_
    refine Wk.irem X at_90 91 rfl (by decide) ?_
    refine Wk.istore X at_91 93 rfl #[.val (.int p0), .val (.int p1), .val (.int p2), .val (.int p3), .val (.int p4), .val (.int (0 : Int32)), .val (.int q0), .val (.int q1), .val (.int q2), .val (.int q3), .val (.ref r), .val (.int (q0 % (32 : Int32))), .unset, .unset, .unset, .unset, .unset, .unset, .unset, .unset, .unset, .unset] rfl ?_
    refine Wk.iload X at_93 95 rfl rfl ?_
    refine Wk.bipush X at_95 97 rfl (32 : Int32) rfl ?_
    refine Wk.irem X at_97 98 rfl (by decide) ?_
    refine Wk.istore X at_98 100 rfl #[.val (.int p0), .val (.int p1), .val (.int p2), .val (.int p3), .val (.int p4), .val (.int (0 : Int32)), .val (.int q0), .val (.int q1), .val (.int q2), .val (.int q3), .val (.ref r), .val (.int (q0 % (32 : Int32))), .val (.int (q1 % (32 : Int32))), .unset, .unset, .unset, .unset, .unset, .unset, .unset, .unset, .unset] rfl ?_
    refine Wk.iload X at_100 102 rfl rfl ?_
    refine Wk.bipush X at_102 104 rfl (32 : Int32) rfl ?_
    refine Wk.irem X at_104 105 rfl (by decide) ?_
    refine Wk.istore X at_105 107 rfl #[.val (.int p0), .val (.int p1), .val (.int p2), .val (.int p3), .val (.int p4), .val (.int (0 : Int32)), .val (.int q0), .val (.int q1), .val (.int q2), .val (.int q3), .val (.ref r), .val (.int (q0 % (32 : Int32))), .val (.int (q1 % (32 : Int32))), .val (.int (q2 % (32 : Int32))), .unset, .unset, .unset, .unset, .unset, .unset, .unset, .unset] rfl ?_
    refine Wk.iload X at_107 109 rfl rfl ?_
    refine Wk.bipush X at_109 111 rfl (32 : Int32) rfl ?_
    refine Wk.irem X at_111 112 rfl (by decide) ?_
    refine Wk.istore X at_112 114 rfl #[.val (.int p0), .val (.int p1), .val (.int p2), .val (.int p3), .val (.int p4), .val (.int (0 : Int32)), .val (.int q0), .val (.int q1), .val (.int q2), .val (.int q3), .val (.ref r), .val (.int (q0 % (32 : Int32))), .val (.int (q1 % (32 : Int32))), .val (.int (q2 % (32 : Int32))), .val (.int (q3 % (32 : Int32))), .unset, .unset, .unset, .unset, .unset, .unset, .unset] rfl ?_
    have hc0 := own_cls hq0
    have tq0 : ∀ P, stp P q0 = stp P (q0 % (32 : Int32)) := fun P => own_stp hq0
    generalize (q0 % (32 : Int32)) = c0 at hc0 tq0 ⊢
    have hc1 := own_cls hq1
    have tq1 : ∀ P, stp P q1 = stp P (q1 % (32 : Int32)) := fun P => own_stp hq1
    generalize (q1 % (32 : Int32)) = c1 at hc1 tq1 ⊢
    have hc2 := own_cls hq2
    have tq2 : ∀ P, stp P q2 = stp P (q2 % (32 : Int32)) := fun P => own_stp hq2
    generalize (q2 % (32 : Int32)) = c2 at hc2 tq2 ⊢
    have hc3 := own_cls hq3
    have tq3 : ∀ P, stp P q3 = stp P (q3 % (32 : Int32)) := fun P => own_stp hq3
    generalize (q3 % (32 : Int32)) = c3 at hc3 tq3 ⊢
    show Wk p.tables e below _ (T.setTop (mkF m 114 #[.val (.int p0), .val (.int p1), .val (.int p2), .val (.int p3), .val (.int p4), .val (.int (0 : Int32)), .val (.int q0), .val (.int q1), .val (.int q2), .val (.int q3), .val (.ref r), .val (.int c0), .val (.int c1), .val (.int c2), .val (.int c3), .unset, .unset, .unset, .unset, .unset, .unset, .unset] []))
    refine Wk.iload X at_114 116 rfl rfl ?_
    refine Wk.iconst X at_116 117 rfl (1 : Int32) rfl ?_
    refine Wk.icmpT X at_117 124 (by decide) (show ¬ (1 : Int32) < (0 : Int32) from (by decide)) ?_
    refine Wk.iconst X at_124 125 rfl (0 : Int32) rfl ?_
    refine Wk.istore X at_125 127 rfl #[.val (.int p0), .val (.int p1), .val (.int p2), .val (.int p3), .val (.int p4), .val (.int (0 : Int32)), .val (.int q0), .val (.int q1), .val (.int q2), .val (.int q3), .val (.ref r), .val (.int c0), .val (.int c1), .val (.int c2), .val (.int c3), .val (.int (0 : Int32)), .unset, .unset, .unset, .unset, .unset, .unset] rfl ?_
    refine Wk.iload X at_127 129 rfl rfl ?_
    refine Wk.iconst X at_129 130 rfl (2 : Int32) rfl ?_
    refine Wk.icmpT X at_130 137 (by decide) (show ¬ (2 : Int32) < (0 : Int32) from (by decide)) ?_
    refine Wk.iconst X at_137 138 rfl (0 : Int32) rfl ?_
    refine Wk.istore X at_138 140 rfl #[.val (.int p0), .val (.int p1), .val (.int p2), .val (.int p3), .val (.int p4), .val (.int (0 : Int32)), .val (.int q0), .val (.int q1), .val (.int q2), .val (.int q3), .val (.ref r), .val (.int c0), .val (.int c1), .val (.int c2), .val (.int c3), .val (.int (0 : Int32)), .val (.int (0 : Int32)), .unset, .unset, .unset, .unset, .unset] rfl ?_
    refine Wk.iload X at_140 142 rfl rfl ?_
    refine Wk.iconst X at_142 143 rfl (3 : Int32) rfl ?_
    refine Wk.icmpT X at_143 150 (by decide) (show ¬ (3 : Int32) < (0 : Int32) from (by decide)) ?_
    refine Wk.iconst X at_150 151 rfl (0 : Int32) rfl ?_
    refine Wk.istore X at_151 153 rfl #[.val (.int p0), .val (.int p1), .val (.int p2), .val (.int p3), .val (.int p4), .val (.int (0 : Int32)), .val (.int q0), .val (.int q1), .val (.int q2), .val (.int q3), .val (.ref r), .val (.int c0), .val (.int c1), .val (.int c2), .val (.int c3), .val (.int (0 : Int32)), .val (.int (0 : Int32)), .val (.int (0 : Int32)), .unset, .unset, .unset, .unset] rfl ?_
    refine Wk.lconst X at_153 154 rfl (0 : Int64) rfl ?_
    refine Wk.lstore X at_154 156 rfl #[.val (.int p0), .val (.int p1), .val (.int p2), .val (.int p3), .val (.int p4), .val (.int (0 : Int32)), .val (.int q0), .val (.int q1), .val (.int q2), .val (.int q3), .val (.ref r), .val (.int c0), .val (.int c1), .val (.int c2), .val (.int c3), .val (.int (0 : Int32)), .val (.int (0 : Int32)), .val (.int (0 : Int32)), .val (.long (0 : Int64)), .second, .unset, .unset] rfl ?_
    refine Wk.iload X at_156 158 rfl rfl ?_
    refine Wk.ifcT X at_158 212 (by decide) (show ¬ (0 : Int32) < (0 : Int32) from (by decide)) ?_
    refine Wk.iload X at_212 214 rfl rfl ?_
    refine Wk.iconst X at_214 215 rfl (1 : Int32) rfl ?_
    refine Wk.icmpT X at_215 264 (by decide) (show ¬ (1 : Int32) < (0 : Int32) from (by decide)) ?_
    refine Wk.iload X at_264 266 rfl rfl ?_
    refine Wk.iconst X at_266 267 rfl (2 : Int32) rfl ?_
    refine Wk.icmpT X at_267 311 (by decide) (show ¬ (2 : Int32) < (0 : Int32) from (by decide)) ?_
    refine Wk.iload X at_311 313 rfl rfl ?_
    refine Wk.iconst X at_313 314 rfl (3 : Int32) rfl ?_
    refine Wk.icmpT X at_314 353 (by decide) (show ¬ (3 : Int32) < (0 : Int32) from (by decide)) ?_
    refine Wk.aload X at_353 355 rfl rfl rfl ?_
    refine Wk.callS X (t7 hw) (t8 hw) (t9 hw) (t10 hw) (con_profile l Z a0 hw [] _ n0 r [] R0) (by decide) pd1 [(.ref r)] [] rfl rfl rfl rfl 0 (Nat.le_of_eq rfl) (by decide) (by decide) (by decide) (by decide) 1 0 rfl rfl at_355 358 rfl ?_
    rintro _ T _ X ⟨rfl, rfl⟩
    show Wk p.tables e below _ (T.setTop (mkF m 358 #[.val (.int p0), .val (.int p1), .val (.int p2), .val (.int p3), .val (.int p4), .val (.int (0 : Int32)), .val (.int q0), .val (.int q1), .val (.int q2), .val (.int q3), .val (.ref r), .val (.int c0), .val (.int c1), .val (.int c2), .val (.int c3), .val (.int (0 : Int32)), .val (.int (0 : Int32)), .val (.int (0 : Int32)), .val (.long (0 : Int64)), .second, .unset, .unset] [(.long (prof [] 0))]))
    have hE : prof [] 0 = (0 : Int64) := by
      rfl
    refine Wk.lstore X at_358 360 rfl #[.val (.int p0), .val (.int p1), .val (.int p2), .val (.int p3), .val (.int p4), .val (.int (0 : Int32)), .val (.int q0), .val (.int q1), .val (.int q2), .val (.int q3), .val (.ref r), .val (.int c0), .val (.int c1), .val (.int c2), .val (.int c3), .val (.int (0 : Int32)), .val (.int (0 : Int32)), .val (.int (0 : Int32)), .val (.long (0 : Int64)), .second, .val (.long (prof [] 0)), .second] rfl ?_
    refine Wk.lload X at_360 362 rfl rfl ?_
    refine Wk.lload X at_362 364 rfl rfl ?_
    refine Wk.lcmp X at_364 365 rfl ?_
    refine Wk.ifcF X at_365 368 rfl (show (if (prof [] 0) > (0 : Int64) then 1 else if (prof [] 0) = (0 : Int64) then 0 else -1) = (0 : Int32) from (by rw [hE, if_neg Int64.lt_irrefl, if_pos rfl])) ?_
    refine Wk.iconst X at_368 369 rfl (1 : Int32) rfl ?_
    refine Wk.goto X at_369 373 (by decide) ?_
    exact Wk.zreturn X at_373 (by decide) (by decide) (Or.inr rfl) rfl
  · show Wk p.tables e below _ (T.setTop (mkF m 35 #[.val (.int p0), .val (.int p1), .val (.int p2), .val (.int p3), .val (.int p4), .val (.int (1 : Int32)), .val (.int q0), .val (.int q1), .val (.int q2), .val (.int q3), .unset, .unset, .unset, .unset, .unset, .unset, .unset, .unset, .unset, .unset, .unset, .unset] [(.int (1 : Int32))]))
    refine Wk.newarray (aty := .int) X (t6 hw) at_35 37 rfl 1 rfl 1 (Nat.le_refl _) (by decide) (by decide) (by decide) ?_
    intro T h1 r gr X E1 R0
    change Arl Z h1 r .int [.int 0] at R0
    have hr : n0 ≤ r := by omega
    refine Wk.astore X at_37 39 rfl #[.val (.int p0), .val (.int p1), .val (.int p2), .val (.int p3), .val (.int p4), .val (.int (1 : Int32)), .val (.int q0), .val (.int q1), .val (.int q2), .val (.int q3), .val (.ref r), .unset, .unset, .unset, .unset, .unset, .unset, .unset, .unset, .unset, .unset, .unset] rfl rfl ?_
    refine Wk.iload X at_39 41 rfl rfl ?_
    refine Wk.ifcF X at_41 44 rfl (show (0 : Int32) < (1 : Int32) from (by decide)) ?_
    refine Wk.aload X at_44 46 rfl rfl rfl ?_
    refine Wk.iconst X at_46 47 rfl (0 : Int32) rfl ?_
    refine Wk.iload X at_47 49 rfl rfl ?_
    refine Wk.iastore X R0 hr 0 rfl (Nat.le_of_ble_eq_true rfl) at_49 50 rfl ?_
    intro T h2 X W1
    have R1 := R0.set W1
    change Arl Z h2 r .int [.int q0] at R1
    refine Wk.iload X at_50 52 rfl rfl ?_
    refine Wk.iconst X at_52 53 rfl (1 : Int32) rfl ?_
    refine Wk.icmpT X at_53 62 (by decide) (show ¬ (1 : Int32) < (1 : Int32) from (by decide)) ?_
    refine Wk.iload X at_62 64 rfl rfl ?_
    refine Wk.iconst X at_64 65 rfl (2 : Int32) rfl ?_
    refine Wk.icmpT X at_65 74 (by decide) (show ¬ (2 : Int32) < (1 : Int32) from (by decide)) ?_
    refine Wk.iload X at_74 76 rfl rfl ?_
    refine Wk.iconst X at_76 77 rfl (3 : Int32) rfl ?_
    refine Wk.icmpT X at_77 86 (by decide) (show ¬ (3 : Int32) < (1 : Int32) from (by decide)) ?_
    refine Wk.iload X at_86 88 rfl rfl ?_
    refine Wk.bipush X at_88 90 rfl (32 : Int32) rfl ?_
    refine Wk.irem X at_90 91 rfl (by decide) ?_
    refine Wk.istore X at_91 93 rfl #[.val (.int p0), .val (.int p1), .val (.int p2), .val (.int p3), .val (.int p4), .val (.int (1 : Int32)), .val (.int q0), .val (.int q1), .val (.int q2), .val (.int q3), .val (.ref r), .val (.int (q0 % (32 : Int32))), .unset, .unset, .unset, .unset, .unset, .unset, .unset, .unset, .unset, .unset] rfl ?_
    refine Wk.iload X at_93 95 rfl rfl ?_
    refine Wk.bipush X at_95 97 rfl (32 : Int32) rfl ?_
    refine Wk.irem X at_97 98 rfl (by decide) ?_
    refine Wk.istore X at_98 100 rfl #[.val (.int p0), .val (.int p1), .val (.int p2), .val (.int p3), .val (.int p4), .val (.int (1 : Int32)), .val (.int q0), .val (.int q1), .val (.int q2), .val (.int q3), .val (.ref r), .val (.int (q0 % (32 : Int32))), .val (.int (q1 % (32 : Int32))), .unset, .unset, .unset, .unset, .unset, .unset, .unset, .unset, .unset] rfl ?_
    refine Wk.iload X at_100 102 rfl rfl ?_
    refine Wk.bipush X at_102 104 rfl (32 : Int32) rfl ?_
    refine Wk.irem X at_104 105 rfl (by decide) ?_
    refine Wk.istore X at_105 107 rfl #[.val (.int p0), .val (.int p1), .val (.int p2), .val (.int p3), .val (.int p4), .val (.int (1 : Int32)), .val (.int q0), .val (.int q1), .val (.int q2), .val (.int q3), .val (.ref r), .val (.int (q0 % (32 : Int32))), .val (.int (q1 % (32 : Int32))), .val (.int (q2 % (32 : Int32))), .unset, .unset, .unset, .unset, .unset, .unset, .unset, .unset] rfl ?_
    refine Wk.iload X at_107 109 rfl rfl ?_
    refine Wk.bipush X at_109 111 rfl (32 : Int32) rfl ?_
    refine Wk.irem X at_111 112 rfl (by decide) ?_
    refine Wk.istore X at_112 114 rfl #[.val (.int p0), .val (.int p1), .val (.int p2), .val (.int p3), .val (.int p4), .val (.int (1 : Int32)), .val (.int q0), .val (.int q1), .val (.int q2), .val (.int q3), .val (.ref r), .val (.int (q0 % (32 : Int32))), .val (.int (q1 % (32 : Int32))), .val (.int (q2 % (32 : Int32))), .val (.int (q3 % (32 : Int32))), .unset, .unset, .unset, .unset, .unset, .unset, .unset] rfl ?_
    have hc0 := own_cls hq0
    have tq0 : ∀ P, stp P q0 = stp P (q0 % (32 : Int32)) := fun P => own_stp hq0
    generalize (q0 % (32 : Int32)) = c0 at hc0 tq0 ⊢
    have hc1 := own_cls hq1
    have tq1 : ∀ P, stp P q1 = stp P (q1 % (32 : Int32)) := fun P => own_stp hq1
    generalize (q1 % (32 : Int32)) = c1 at hc1 tq1 ⊢
    have hc2 := own_cls hq2
    have tq2 : ∀ P, stp P q2 = stp P (q2 % (32 : Int32)) := fun P => own_stp hq2
    generalize (q2 % (32 : Int32)) = c2 at hc2 tq2 ⊢
    have hc3 := own_cls hq3
    have tq3 : ∀ P, stp P q3 = stp P (q3 % (32 : Int32)) := fun P => own_stp hq3
    generalize (q3 % (32 : Int32)) = c3 at hc3 tq3 ⊢
    show Wk p.tables e below _ (T.setTop (mkF m 114 #[.val (.int p0), .val (.int p1), .val (.int p2), .val (.int p3), .val (.int p4), .val (.int (1 : Int32)), .val (.int q0), .val (.int q1), .val (.int q2), .val (.int q3), .val (.ref r), .val (.int c0), .val (.int c1), .val (.int c2), .val (.int c3), .unset, .unset, .unset, .unset, .unset, .unset, .unset] []))
    refine Wk.iload X at_114 116 rfl rfl ?_
    refine Wk.iconst X at_116 117 rfl (1 : Int32) rfl ?_
    refine Wk.icmpT X at_117 124 (by decide) (show ¬ (1 : Int32) < (1 : Int32) from (by decide)) ?_
    refine Wk.iconst X at_124 125 rfl (0 : Int32) rfl ?_
    refine Wk.istore X at_125 127 rfl #[.val (.int p0), .val (.int p1), .val (.int p2), .val (.int p3), .val (.int p4), .val (.int (1 : Int32)), .val (.int q0), .val (.int q1), .val (.int q2), .val (.int q3), .val (.ref r), .val (.int c0), .val (.int c1), .val (.int c2), .val (.int c3), .val (.int (0 : Int32)), .unset, .unset, .unset, .unset, .unset, .unset] rfl ?_
    refine Wk.iload X at_127 129 rfl rfl ?_
    refine Wk.iconst X at_129 130 rfl (2 : Int32) rfl ?_
    refine Wk.icmpT X at_130 137 (by decide) (show ¬ (2 : Int32) < (1 : Int32) from (by decide)) ?_
    refine Wk.iconst X at_137 138 rfl (0 : Int32) rfl ?_
    refine Wk.istore X at_138 140 rfl #[.val (.int p0), .val (.int p1), .val (.int p2), .val (.int p3), .val (.int p4), .val (.int (1 : Int32)), .val (.int q0), .val (.int q1), .val (.int q2), .val (.int q3), .val (.ref r), .val (.int c0), .val (.int c1), .val (.int c2), .val (.int c3), .val (.int (0 : Int32)), .val (.int (0 : Int32)), .unset, .unset, .unset, .unset, .unset] rfl ?_
    refine Wk.iload X at_140 142 rfl rfl ?_
    refine Wk.iconst X at_142 143 rfl (3 : Int32) rfl ?_
    refine Wk.icmpT X at_143 150 (by decide) (show ¬ (3 : Int32) < (1 : Int32) from (by decide)) ?_
    refine Wk.iconst X at_150 151 rfl (0 : Int32) rfl ?_
    refine Wk.istore X at_151 153 rfl #[.val (.int p0), .val (.int p1), .val (.int p2), .val (.int p3), .val (.int p4), .val (.int (1 : Int32)), .val (.int q0), .val (.int q1), .val (.int q2), .val (.int q3), .val (.ref r), .val (.int c0), .val (.int c1), .val (.int c2), .val (.int c3), .val (.int (0 : Int32)), .val (.int (0 : Int32)), .val (.int (0 : Int32)), .unset, .unset, .unset, .unset] rfl ?_
    refine Wk.lconst X at_153 154 rfl (0 : Int64) rfl ?_
    refine Wk.lstore X at_154 156 rfl #[.val (.int p0), .val (.int p1), .val (.int p2), .val (.int p3), .val (.int p4), .val (.int (1 : Int32)), .val (.int q0), .val (.int q1), .val (.int q2), .val (.int q3), .val (.ref r), .val (.int c0), .val (.int c1), .val (.int c2), .val (.int c3), .val (.int (0 : Int32)), .val (.int (0 : Int32)), .val (.int (0 : Int32)), .val (.long (0 : Int64)), .second, .unset, .unset] rfl ?_
    refine Wk.iload X at_156 158 rfl rfl ?_
    refine Wk.ifcF X at_158 161 rfl (show (0 : Int32) < (1 : Int32) from (by decide)) ?_
    refine Wk.lload X at_161 163 rfl rfl ?_
    refine Wk.iload X at_163 165 rfl rfl ?_
    refine Wk.iload X at_165 167 rfl rfl ?_
    refine Wk.ifcT X at_167 177 (by decide) (show (0 : Int32) = (0 : Int32) from (by decide)) ?_
    refine Wk.iload X at_177 179 rfl rfl ?_
    refine Wk.ifcT X at_179 189 (by decide) (show (0 : Int32) = (0 : Int32) from (by decide)) ?_
    refine Wk.iload X at_189 191 rfl rfl ?_
    refine Wk.ifcT X at_191 205 (by decide) (show (0 : Int32) = (0 : Int32) from (by decide)) ?_
    refine Wk.iconst X at_205 206 rfl (0 : Int32) rfl ?_
    refine Wk.callS X (t11 hw) (t12 hw) (t3 hw) (t13 hw) (con_bits l Z a0 hw [] _ n0 c0 (0 : Int32)) (by decide) pd2 [(.int c0), (.int (0 : Int32))] [(.long (0 : Int64))] rfl rfl rfl rfl 2 (Nat.le_of_eq rfl) (by decide) (by decide) (by decide) (by decide) 1 1 rfl rfl at_206 209 rfl ?_
    rintro _ T _ X ⟨rfl, rfl⟩
    show Wk p.tables e below _ (T.setTop (mkF m 209 #[.val (.int p0), .val (.int p1), .val (.int p2), .val (.int p3), .val (.int p4), .val (.int (1 : Int32)), .val (.int q0), .val (.int q1), .val (.int q2), .val (.int q3), .val (.ref r), .val (.int c0), .val (.int c1), .val (.int c2), .val (.int c3), .val (.int (0 : Int32)), .val (.int (0 : Int32)), .val (.int (0 : Int32)), .val (.long (0 : Int64)), .second, .unset, .unset] [(.long (bitsF c0 (0 : Int32))), (.long (0 : Int64))]))
    refine Wk.lor X at_209 210 rfl ?_
    refine Wk.lstore X at_210 212 rfl #[.val (.int p0), .val (.int p1), .val (.int p2), .val (.int p3), .val (.int p4), .val (.int (1 : Int32)), .val (.int q0), .val (.int q1), .val (.int q2), .val (.int q3), .val (.ref r), .val (.int c0), .val (.int c1), .val (.int c2), .val (.int c3), .val (.int (0 : Int32)), .val (.int (0 : Int32)), .val (.int (0 : Int32)), .val (.long ((0 : Int64) ||| (bitsF c0 (0 : Int32)))), .second, .unset, .unset] rfl ?_
    refine Wk.iload X at_212 214 rfl rfl ?_
    refine Wk.iconst X at_214 215 rfl (1 : Int32) rfl ?_
    refine Wk.icmpT X at_215 264 (by decide) (show ¬ (1 : Int32) < (1 : Int32) from (by decide)) ?_
    refine Wk.iload X at_264 266 rfl rfl ?_
    refine Wk.iconst X at_266 267 rfl (2 : Int32) rfl ?_
    refine Wk.icmpT X at_267 311 (by decide) (show ¬ (2 : Int32) < (1 : Int32) from (by decide)) ?_
    refine Wk.iload X at_311 313 rfl rfl ?_
    refine Wk.iconst X at_313 314 rfl (3 : Int32) rfl ?_
    refine Wk.icmpT X at_314 353 (by decide) (show ¬ (3 : Int32) < (1 : Int32) from (by decide)) ?_
    refine Wk.aload X at_353 355 rfl rfl rfl ?_
    refine Wk.callS X (t7 hw) (t8 hw) (t9 hw) (t10 hw) (con_profile l Z a0 hw [] _ n0 r [q0] R1) (by decide) pd1 [(.ref r)] [] rfl rfl rfl rfl 0 (Nat.le_of_eq rfl) (by decide) (by decide) (by decide) (by decide) 1 1 rfl rfl at_355 358 rfl ?_
    rintro _ T _ X ⟨rfl, rfl⟩
    show Wk p.tables e below _ (T.setTop (mkF m 358 #[.val (.int p0), .val (.int p1), .val (.int p2), .val (.int p3), .val (.int p4), .val (.int (1 : Int32)), .val (.int q0), .val (.int q1), .val (.int q2), .val (.int q3), .val (.ref r), .val (.int c0), .val (.int c1), .val (.int c2), .val (.int c3), .val (.int (0 : Int32)), .val (.int (0 : Int32)), .val (.int (0 : Int32)), .val (.long ((0 : Int64) ||| (bitsF c0 (0 : Int32)))), .second, .unset, .unset] [(.long (prof [q0] 0))]))
    have hE : prof [q0] 0 = ((0 : Int64) ||| (bitsF c0 (0 : Int32))) := by
      show stp 0 q0 = _
      rw [tq0]
      exact own_law1 c0
    refine Wk.lstore X at_358 360 rfl #[.val (.int p0), .val (.int p1), .val (.int p2), .val (.int p3), .val (.int p4), .val (.int (1 : Int32)), .val (.int q0), .val (.int q1), .val (.int q2), .val (.int q3), .val (.ref r), .val (.int c0), .val (.int c1), .val (.int c2), .val (.int c3), .val (.int (0 : Int32)), .val (.int (0 : Int32)), .val (.int (0 : Int32)), .val (.long ((0 : Int64) ||| (bitsF c0 (0 : Int32)))), .second, .val (.long (prof [q0] 0)), .second] rfl ?_
    refine Wk.lload X at_360 362 rfl rfl ?_
    refine Wk.lload X at_362 364 rfl rfl ?_
    refine Wk.lcmp X at_364 365 rfl ?_
    refine Wk.ifcF X at_365 368 rfl (show (if (prof [q0] 0) > ((0 : Int64) ||| (bitsF c0 (0 : Int32))) then 1 else if (prof [q0] 0) = ((0 : Int64) ||| (bitsF c0 (0 : Int32))) then 0 else -1) = (0 : Int32) from (by rw [hE, if_neg Int64.lt_irrefl, if_pos rfl])) ?_
    refine Wk.iconst X at_368 369 rfl (1 : Int32) rfl ?_
    refine Wk.goto X at_369 373 (by decide) ?_
    exact Wk.zreturn X at_373 (by decide) (by decide) (Or.inr rfl) rfl
  · show Wk p.tables e below _ (T.setTop (mkF m 35 #[.val (.int p0), .val (.int p1), .val (.int p2), .val (.int p3), .val (.int p4), .val (.int (2 : Int32)), .val (.int q0), .val (.int q1), .val (.int q2), .val (.int q3), .unset, .unset, .unset, .unset, .unset, .unset, .unset, .unset, .unset, .unset, .unset, .unset] [(.int (2 : Int32))]))
    refine Wk.newarray (aty := .int) X (t6 hw) at_35 37 rfl 2 rfl 2 (Nat.le_refl _) (by decide) (by decide) (by decide) ?_
    intro T h1 r gr X E1 R0
    change Arl Z h1 r .int [.int 0, .int 0] at R0
    have hr : n0 ≤ r := by omega
    refine Wk.astore X at_37 39 rfl #[.val (.int p0), .val (.int p1), .val (.int p2), .val (.int p3), .val (.int p4), .val (.int (2 : Int32)), .val (.int q0), .val (.int q1), .val (.int q2), .val (.int q3), .val (.ref r), .unset, .unset, .unset, .unset, .unset, .unset, .unset, .unset, .unset, .unset, .unset] rfl rfl ?_
    refine Wk.iload X at_39 41 rfl rfl ?_
    refine Wk.ifcF X at_41 44 rfl (show (0 : Int32) < (2 : Int32) from (by decide)) ?_
    refine Wk.aload X at_44 46 rfl rfl rfl ?_
    refine Wk.iconst X at_46 47 rfl (0 : Int32) rfl ?_
    refine Wk.iload X at_47 49 rfl rfl ?_
    refine Wk.iastore X R0 hr 0 rfl (Nat.le_of_ble_eq_true rfl) at_49 50 rfl ?_
    intro T h2 X W1
    have R1 := R0.set W1
    change Arl Z h2 r .int [.int q0, .int 0] at R1
    refine Wk.iload X at_50 52 rfl rfl ?_
    refine Wk.iconst X at_52 53 rfl (1 : Int32) rfl ?_
    refine Wk.icmpF X at_53 56 rfl (show (1 : Int32) < (2 : Int32) from (by decide)) ?_
    refine Wk.aload X at_56 58 rfl rfl rfl ?_
    refine Wk.iconst X at_58 59 rfl (1 : Int32) rfl ?_
    refine Wk.iload X at_59 61 rfl rfl ?_
    refine Wk.iastore X R1 hr 1 rfl (Nat.le_of_ble_eq_true rfl) at_61 62 rfl ?_
    intro T h3 X W2
    have R2 := R1.set W2
    change Arl Z h3 r .int [.int q0, .int q1] at R2
    refine Wk.iload X at_62 64 rfl rfl ?_
    refine Wk.iconst X at_64 65 rfl (2 : Int32) rfl ?_
    refine Wk.icmpT X at_65 74 (by decide) (show ¬ (2 : Int32) < (2 : Int32) from (by decide)) ?_
    refine Wk.iload X at_74 76 rfl rfl ?_
    refine Wk.iconst X at_76 77 rfl (3 : Int32) rfl ?_
    refine Wk.icmpT X at_77 86 (by decide) (show ¬ (3 : Int32) < (2 : Int32) from (by decide)) ?_
    refine Wk.iload X at_86 88 rfl rfl ?_
    refine Wk.bipush X at_88 90 rfl (32 : Int32) rfl ?_
    refine Wk.irem X at_90 91 rfl (by decide) ?_
    refine Wk.istore X at_91 93 rfl #[.val (.int p0), .val (.int p1), .val (.int p2), .val (.int p3), .val (.int p4), .val (.int (2 : Int32)), .val (.int q0), .val (.int q1), .val (.int q2), .val (.int q3), .val (.ref r), .val (.int (q0 % (32 : Int32))), .unset, .unset, .unset, .unset, .unset, .unset, .unset, .unset, .unset, .unset] rfl ?_
    refine Wk.iload X at_93 95 rfl rfl ?_
    refine Wk.bipush X at_95 97 rfl (32 : Int32) rfl ?_
    refine Wk.irem X at_97 98 rfl (by decide) ?_
    refine Wk.istore X at_98 100 rfl #[.val (.int p0), .val (.int p1), .val (.int p2), .val (.int p3), .val (.int p4), .val (.int (2 : Int32)), .val (.int q0), .val (.int q1), .val (.int q2), .val (.int q3), .val (.ref r), .val (.int (q0 % (32 : Int32))), .val (.int (q1 % (32 : Int32))), .unset, .unset, .unset, .unset, .unset, .unset, .unset, .unset, .unset] rfl ?_
    refine Wk.iload X at_100 102 rfl rfl ?_
    refine Wk.bipush X at_102 104 rfl (32 : Int32) rfl ?_
    refine Wk.irem X at_104 105 rfl (by decide) ?_
    refine Wk.istore X at_105 107 rfl #[.val (.int p0), .val (.int p1), .val (.int p2), .val (.int p3), .val (.int p4), .val (.int (2 : Int32)), .val (.int q0), .val (.int q1), .val (.int q2), .val (.int q3), .val (.ref r), .val (.int (q0 % (32 : Int32))), .val (.int (q1 % (32 : Int32))), .val (.int (q2 % (32 : Int32))), .unset, .unset, .unset, .unset, .unset, .unset, .unset, .unset] rfl ?_
    refine Wk.iload X at_107 109 rfl rfl ?_
    refine Wk.bipush X at_109 111 rfl (32 : Int32) rfl ?_
    refine Wk.irem X at_111 112 rfl (by decide) ?_
    refine Wk.istore X at_112 114 rfl #[.val (.int p0), .val (.int p1), .val (.int p2), .val (.int p3), .val (.int p4), .val (.int (2 : Int32)), .val (.int q0), .val (.int q1), .val (.int q2), .val (.int q3), .val (.ref r), .val (.int (q0 % (32 : Int32))), .val (.int (q1 % (32 : Int32))), .val (.int (q2 % (32 : Int32))), .val (.int (q3 % (32 : Int32))), .unset, .unset, .unset, .unset, .unset, .unset, .unset] rfl ?_
    have hc0 := own_cls hq0
    have tq0 : ∀ P, stp P q0 = stp P (q0 % (32 : Int32)) := fun P => own_stp hq0
    generalize (q0 % (32 : Int32)) = c0 at hc0 tq0 ⊢
    have hc1 := own_cls hq1
    have tq1 : ∀ P, stp P q1 = stp P (q1 % (32 : Int32)) := fun P => own_stp hq1
    generalize (q1 % (32 : Int32)) = c1 at hc1 tq1 ⊢
    have hc2 := own_cls hq2
    have tq2 : ∀ P, stp P q2 = stp P (q2 % (32 : Int32)) := fun P => own_stp hq2
    generalize (q2 % (32 : Int32)) = c2 at hc2 tq2 ⊢
    have hc3 := own_cls hq3
    have tq3 : ∀ P, stp P q3 = stp P (q3 % (32 : Int32)) := fun P => own_stp hq3
    generalize (q3 % (32 : Int32)) = c3 at hc3 tq3 ⊢
    show Wk p.tables e below _ (T.setTop (mkF m 114 #[.val (.int p0), .val (.int p1), .val (.int p2), .val (.int p3), .val (.int p4), .val (.int (2 : Int32)), .val (.int q0), .val (.int q1), .val (.int q2), .val (.int q3), .val (.ref r), .val (.int c0), .val (.int c1), .val (.int c2), .val (.int c3), .unset, .unset, .unset, .unset, .unset, .unset, .unset] []))
    refine Wk.iload X at_114 116 rfl rfl ?_
    refine Wk.iconst X at_116 117 rfl (1 : Int32) rfl ?_
    refine Wk.icmpF X at_117 120 rfl (show (1 : Int32) < (2 : Int32) from (by decide)) ?_
    refine Wk.iconst X at_120 121 rfl (1 : Int32) rfl ?_
    refine Wk.goto X at_121 125 (by decide) ?_
    refine Wk.istore X at_125 127 rfl #[.val (.int p0), .val (.int p1), .val (.int p2), .val (.int p3), .val (.int p4), .val (.int (2 : Int32)), .val (.int q0), .val (.int q1), .val (.int q2), .val (.int q3), .val (.ref r), .val (.int c0), .val (.int c1), .val (.int c2), .val (.int c3), .val (.int (1 : Int32)), .unset, .unset, .unset, .unset, .unset, .unset] rfl ?_
    refine Wk.iload X at_127 129 rfl rfl ?_
    refine Wk.iconst X at_129 130 rfl (2 : Int32) rfl ?_
    refine Wk.icmpT X at_130 137 (by decide) (show ¬ (2 : Int32) < (2 : Int32) from (by decide)) ?_
    refine Wk.iconst X at_137 138 rfl (0 : Int32) rfl ?_
    refine Wk.istore X at_138 140 rfl #[.val (.int p0), .val (.int p1), .val (.int p2), .val (.int p3), .val (.int p4), .val (.int (2 : Int32)), .val (.int q0), .val (.int q1), .val (.int q2), .val (.int q3), .val (.ref r), .val (.int c0), .val (.int c1), .val (.int c2), .val (.int c3), .val (.int (1 : Int32)), .val (.int (0 : Int32)), .unset, .unset, .unset, .unset, .unset] rfl ?_
    refine Wk.iload X at_140 142 rfl rfl ?_
    refine Wk.iconst X at_142 143 rfl (3 : Int32) rfl ?_
    refine Wk.icmpT X at_143 150 (by decide) (show ¬ (3 : Int32) < (2 : Int32) from (by decide)) ?_
    refine Wk.iconst X at_150 151 rfl (0 : Int32) rfl ?_
    refine Wk.istore X at_151 153 rfl #[.val (.int p0), .val (.int p1), .val (.int p2), .val (.int p3), .val (.int p4), .val (.int (2 : Int32)), .val (.int q0), .val (.int q1), .val (.int q2), .val (.int q3), .val (.ref r), .val (.int c0), .val (.int c1), .val (.int c2), .val (.int c3), .val (.int (1 : Int32)), .val (.int (0 : Int32)), .val (.int (0 : Int32)), .unset, .unset, .unset, .unset] rfl ?_
    refine Wk.lconst X at_153 154 rfl (0 : Int64) rfl ?_
    refine Wk.lstore X at_154 156 rfl #[.val (.int p0), .val (.int p1), .val (.int p2), .val (.int p3), .val (.int p4), .val (.int (2 : Int32)), .val (.int q0), .val (.int q1), .val (.int q2), .val (.int q3), .val (.ref r), .val (.int c0), .val (.int c1), .val (.int c2), .val (.int c3), .val (.int (1 : Int32)), .val (.int (0 : Int32)), .val (.int (0 : Int32)), .val (.long (0 : Int64)), .second, .unset, .unset] rfl ?_
    refine Wk.iload X at_156 158 rfl rfl ?_
    refine Wk.ifcF X at_158 161 rfl (show (0 : Int32) < (2 : Int32) from (by decide)) ?_
    refine Wk.lload X at_161 163 rfl rfl ?_
    refine Wk.iload X at_163 165 rfl rfl ?_
    refine Wk.join (T.setTop (mkF m 206 #[.val (.int p0), .val (.int p1), .val (.int p2), .val (.int p3), .val (.int p4), .val (.int (2 : Int32)), .val (.int q0), .val (.int q1), .val (.int q2), .val (.int q3), .val (.ref r), .val (.int c0), .val (.int c1), .val (.int c2), .val (.int c3), .val (.int (1 : Int32)), .val (.int (0 : Int32)), .val (.int (0 : Int32)), .val (.long (0 : Int64)), .second, .unset, .unset] [(.int (tw (c1 = c0))), (.int c0), (.long (0 : Int64))])) True ?_ ?_
    · intro _
      refine Wk.callS X (t11 hw) (t12 hw) (t3 hw) (t13 hw) (con_bits l Z a0 hw [] _ n0 c0 (tw (c1 = c0))) (by decide) pd2 [(.int c0), (.int (tw (c1 = c0)))] [(.long (0 : Int64))] rfl rfl rfl rfl 2 (Nat.le_of_eq rfl) (by decide) (by decide) (by decide) (by decide) 1 2 rfl rfl at_206 209 rfl ?_
      rintro _ T _ X ⟨rfl, rfl⟩
      show Wk p.tables e below _ (T.setTop (mkF m 209 #[.val (.int p0), .val (.int p1), .val (.int p2), .val (.int p3), .val (.int p4), .val (.int (2 : Int32)), .val (.int q0), .val (.int q1), .val (.int q2), .val (.int q3), .val (.ref r), .val (.int c0), .val (.int c1), .val (.int c2), .val (.int c3), .val (.int (1 : Int32)), .val (.int (0 : Int32)), .val (.int (0 : Int32)), .val (.long (0 : Int64)), .second, .unset, .unset] [(.long (bitsF c0 (tw (c1 = c0)))), (.long (0 : Int64))]))
      refine Wk.lor X at_209 210 rfl ?_
      refine Wk.lstore X at_210 212 rfl #[.val (.int p0), .val (.int p1), .val (.int p2), .val (.int p3), .val (.int p4), .val (.int (2 : Int32)), .val (.int q0), .val (.int q1), .val (.int q2), .val (.int q3), .val (.ref r), .val (.int c0), .val (.int c1), .val (.int c2), .val (.int c3), .val (.int (1 : Int32)), .val (.int (0 : Int32)), .val (.int (0 : Int32)), .val (.long ((0 : Int64) ||| (bitsF c0 (tw (c1 = c0))))), .second, .unset, .unset] rfl ?_
      refine Wk.iload X at_212 214 rfl rfl ?_
      refine Wk.iconst X at_214 215 rfl (1 : Int32) rfl ?_
      refine Wk.icmpF X at_215 218 rfl (show (1 : Int32) < (2 : Int32) from (by decide)) ?_
      refine Wk.lload X at_218 220 rfl rfl ?_
      refine Wk.iload X at_220 222 rfl rfl ?_
      refine Wk.join (T.setTop (mkF m 258 #[.val (.int p0), .val (.int p1), .val (.int p2), .val (.int p3), .val (.int p4), .val (.int (2 : Int32)), .val (.int q0), .val (.int q1), .val (.int q2), .val (.int q3), .val (.ref r), .val (.int c0), .val (.int c1), .val (.int c2), .val (.int c3), .val (.int (1 : Int32)), .val (.int (0 : Int32)), .val (.int (0 : Int32)), .val (.long ((0 : Int64) ||| (bitsF c0 (tw (c1 = c0))))), .second, .unset, .unset] [(.int (tw (c0 = c1))), (.int c1), (.long ((0 : Int64) ||| (bitsF c0 (tw (c1 = c0)))))])) True ?_ ?_
      · intro _
        refine Wk.callS X (t11 hw) (t12 hw) (t3 hw) (t13 hw) (con_bits l Z a0 hw [] _ n0 c1 (tw (c0 = c1))) (by decide) pd2 [(.int c1), (.int (tw (c0 = c1)))] [(.long ((0 : Int64) ||| (bitsF c0 (tw (c1 = c0)))))] rfl rfl rfl rfl 2 (Nat.le_of_eq rfl) (by decide) (by decide) (by decide) (by decide) 1 2 rfl rfl at_258 261 rfl ?_
        rintro _ T _ X ⟨rfl, rfl⟩
        show Wk p.tables e below _ (T.setTop (mkF m 261 #[.val (.int p0), .val (.int p1), .val (.int p2), .val (.int p3), .val (.int p4), .val (.int (2 : Int32)), .val (.int q0), .val (.int q1), .val (.int q2), .val (.int q3), .val (.ref r), .val (.int c0), .val (.int c1), .val (.int c2), .val (.int c3), .val (.int (1 : Int32)), .val (.int (0 : Int32)), .val (.int (0 : Int32)), .val (.long ((0 : Int64) ||| (bitsF c0 (tw (c1 = c0))))), .second, .unset, .unset] [(.long (bitsF c1 (tw (c0 = c1)))), (.long ((0 : Int64) ||| (bitsF c0 (tw (c1 = c0)))))]))
        refine Wk.lor X at_261 262 rfl ?_
        refine Wk.lstore X at_262 264 rfl #[.val (.int p0), .val (.int p1), .val (.int p2), .val (.int p3), .val (.int p4), .val (.int (2 : Int32)), .val (.int q0), .val (.int q1), .val (.int q2), .val (.int q3), .val (.ref r), .val (.int c0), .val (.int c1), .val (.int c2), .val (.int c3), .val (.int (1 : Int32)), .val (.int (0 : Int32)), .val (.int (0 : Int32)), .val (.long (((0 : Int64) ||| (bitsF c0 (tw (c1 = c0)))) ||| (bitsF c1 (tw (c0 = c1))))), .second, .unset, .unset] rfl ?_
        refine Wk.iload X at_264 266 rfl rfl ?_
        refine Wk.iconst X at_266 267 rfl (2 : Int32) rfl ?_
        refine Wk.icmpT X at_267 311 (by decide) (show ¬ (2 : Int32) < (2 : Int32) from (by decide)) ?_
        refine Wk.iload X at_311 313 rfl rfl ?_
        refine Wk.iconst X at_313 314 rfl (3 : Int32) rfl ?_
        refine Wk.icmpT X at_314 353 (by decide) (show ¬ (3 : Int32) < (2 : Int32) from (by decide)) ?_
        refine Wk.aload X at_353 355 rfl rfl rfl ?_
        refine Wk.callS X (t7 hw) (t8 hw) (t9 hw) (t10 hw) (con_profile l Z a0 hw [] _ n0 r [q0, q1] R2) (by decide) pd1 [(.ref r)] [] rfl rfl rfl rfl 0 (Nat.le_of_eq rfl) (by decide) (by decide) (by decide) (by decide) 1 2 rfl rfl at_355 358 rfl ?_
        rintro _ T _ X ⟨rfl, rfl⟩
        show Wk p.tables e below _ (T.setTop (mkF m 358 #[.val (.int p0), .val (.int p1), .val (.int p2), .val (.int p3), .val (.int p4), .val (.int (2 : Int32)), .val (.int q0), .val (.int q1), .val (.int q2), .val (.int q3), .val (.ref r), .val (.int c0), .val (.int c1), .val (.int c2), .val (.int c3), .val (.int (1 : Int32)), .val (.int (0 : Int32)), .val (.int (0 : Int32)), .val (.long (((0 : Int64) ||| (bitsF c0 (tw (c1 = c0)))) ||| (bitsF c1 (tw (c0 = c1))))), .second, .unset, .unset] [(.long (prof [q0, q1] 0))]))
        have hE : prof [q0, q1] 0 = (((0 : Int64) ||| (bitsF c0 (tw (c1 = c0)))) ||| (bitsF c1 (tw (c0 = c1)))) := by
          show stp (stp 0 q0) q1 = _
          rw [tq0, tq1]
          exact own_law2 hc0 hc1
        refine Wk.lstore X at_358 360 rfl #[.val (.int p0), .val (.int p1), .val (.int p2), .val (.int p3), .val (.int p4), .val (.int (2 : Int32)), .val (.int q0), .val (.int q1), .val (.int q2), .val (.int q3), .val (.ref r), .val (.int c0), .val (.int c1), .val (.int c2), .val (.int c3), .val (.int (1 : Int32)), .val (.int (0 : Int32)), .val (.int (0 : Int32)), .val (.long (((0 : Int64) ||| (bitsF c0 (tw (c1 = c0)))) ||| (bitsF c1 (tw (c0 = c1))))), .second, .val (.long (prof [q0, q1] 0)), .second] rfl ?_
        refine Wk.lload X at_360 362 rfl rfl ?_
        refine Wk.lload X at_362 364 rfl rfl ?_
        refine Wk.lcmp X at_364 365 rfl ?_
        refine Wk.ifcF X at_365 368 rfl (show (if (prof [q0, q1] 0) > (((0 : Int64) ||| (bitsF c0 (tw (c1 = c0)))) ||| (bitsF c1 (tw (c0 = c1)))) then 1 else if (prof [q0, q1] 0) = (((0 : Int64) ||| (bitsF c0 (tw (c1 = c0)))) ||| (bitsF c1 (tw (c0 = c1)))) then 0 else -1) = (0 : Int32) from (by rw [hE, if_neg Int64.lt_irrefl, if_pos rfl])) ?_
        refine Wk.iconst X at_368 369 rfl (1 : Int32) rfl ?_
        refine Wk.goto X at_369 373 (by decide) ?_
        exact Wk.zreturn X at_373 (by decide) (by decide) (Or.inr rfl) rfl
      · intro J
        refine Wk.iload X at_222 224 rfl rfl ?_
        refine Wk.iload X at_224 226 rfl rfl ?_
        refine Wk.icmp X at_226 253 229 (by decide) rfl ?_ ?_
        · intro e1_0; change c0 = c1 at e1_0
          refine Wk.iconst X at_253 254 rfl (1 : Int32) rfl ?_
          refine Wk.goto X at_254 258 (by decide) ?_
          rw [show (tw (c0 = c1)) = (1 : Int32) from by simp [tw, e1_0]] at J
          exact J trivial
        · intro e1_0; change ¬ c0 = c1 at e1_0
          refine Wk.iload X at_229 231 rfl rfl ?_
          refine Wk.ifcT X at_231 241 (by decide) (show (0 : Int32) = (0 : Int32) from (by decide)) ?_
          refine Wk.iload X at_241 243 rfl rfl ?_
          refine Wk.ifcT X at_243 257 (by decide) (show (0 : Int32) = (0 : Int32) from (by decide)) ?_
          refine Wk.iconst X at_257 258 rfl (0 : Int32) rfl ?_
          rw [show (tw (c0 = c1)) = (0 : Int32) from by simp [tw, e1_0]] at J
          exact J trivial
    · intro J
      refine Wk.iload X at_165 167 rfl rfl ?_
      refine Wk.ifcF X at_167 170 rfl (show ¬ (1 : Int32) = (0 : Int32) from (by decide)) ?_
      refine Wk.iload X at_170 172 rfl rfl ?_
      refine Wk.iload X at_172 174 rfl rfl ?_
      refine Wk.icmp X at_174 201 177 (by decide) rfl ?_ ?_
      · intro e0_0; change c1 = c0 at e0_0
        refine Wk.iconst X at_201 202 rfl (1 : Int32) rfl ?_
        refine Wk.goto X at_202 206 (by decide) ?_
        rw [show (tw (c1 = c0)) = (1 : Int32) from by simp [tw, e0_0]] at J
        exact J trivial
      · intro e0_0; change ¬ c1 = c0 at e0_0
        refine Wk.iload X at_177 179 rfl rfl ?_
        refine Wk.ifcT X at_179 189 (by decide) (show (0 : Int32) = (0 : Int32) from (by decide)) ?_
        refine Wk.iload X at_189 191 rfl rfl ?_
        refine Wk.ifcT X at_191 205 (by decide) (show (0 : Int32) = (0 : Int32) from (by decide)) ?_
        refine Wk.iconst X at_205 206 rfl (0 : Int32) rfl ?_
        rw [show (tw (c1 = c0)) = (0 : Int32) from by simp [tw, e0_0]] at J
        exact J trivial
  · show Wk p.tables e below _ (T.setTop (mkF m 35 #[.val (.int p0), .val (.int p1), .val (.int p2), .val (.int p3), .val (.int p4), .val (.int (3 : Int32)), .val (.int q0), .val (.int q1), .val (.int q2), .val (.int q3), .unset, .unset, .unset, .unset, .unset, .unset, .unset, .unset, .unset, .unset, .unset, .unset] [(.int (3 : Int32))]))
    refine Wk.newarray (aty := .int) X (t6 hw) at_35 37 rfl 3 rfl 3 (Nat.le_refl _) (by decide) (by decide) (by decide) ?_
    intro T h1 r gr X E1 R0
    change Arl Z h1 r .int [.int 0, .int 0, .int 0] at R0
    have hr : n0 ≤ r := by omega
    refine Wk.astore X at_37 39 rfl #[.val (.int p0), .val (.int p1), .val (.int p2), .val (.int p3), .val (.int p4), .val (.int (3 : Int32)), .val (.int q0), .val (.int q1), .val (.int q2), .val (.int q3), .val (.ref r), .unset, .unset, .unset, .unset, .unset, .unset, .unset, .unset, .unset, .unset, .unset] rfl rfl ?_
    refine Wk.iload X at_39 41 rfl rfl ?_
    refine Wk.ifcF X at_41 44 rfl (show (0 : Int32) < (3 : Int32) from (by decide)) ?_
    refine Wk.aload X at_44 46 rfl rfl rfl ?_
    refine Wk.iconst X at_46 47 rfl (0 : Int32) rfl ?_
    refine Wk.iload X at_47 49 rfl rfl ?_
    refine Wk.iastore X R0 hr 0 rfl (Nat.le_of_ble_eq_true rfl) at_49 50 rfl ?_
    intro T h2 X W1
    have R1 := R0.set W1
    change Arl Z h2 r .int [.int q0, .int 0, .int 0] at R1
    refine Wk.iload X at_50 52 rfl rfl ?_
    refine Wk.iconst X at_52 53 rfl (1 : Int32) rfl ?_
    refine Wk.icmpF X at_53 56 rfl (show (1 : Int32) < (3 : Int32) from (by decide)) ?_
    refine Wk.aload X at_56 58 rfl rfl rfl ?_
    refine Wk.iconst X at_58 59 rfl (1 : Int32) rfl ?_
    refine Wk.iload X at_59 61 rfl rfl ?_
    refine Wk.iastore X R1 hr 1 rfl (Nat.le_of_ble_eq_true rfl) at_61 62 rfl ?_
    intro T h3 X W2
    have R2 := R1.set W2
    change Arl Z h3 r .int [.int q0, .int q1, .int 0] at R2
    refine Wk.iload X at_62 64 rfl rfl ?_
    refine Wk.iconst X at_64 65 rfl (2 : Int32) rfl ?_
    refine Wk.icmpF X at_65 68 rfl (show (2 : Int32) < (3 : Int32) from (by decide)) ?_
    refine Wk.aload X at_68 70 rfl rfl rfl ?_
    refine Wk.iconst X at_70 71 rfl (2 : Int32) rfl ?_
    refine Wk.iload X at_71 73 rfl rfl ?_
    refine Wk.iastore X R2 hr 2 rfl (Nat.le_of_ble_eq_true rfl) at_73 74 rfl ?_
    intro T h4 X W3
    have R3 := R2.set W3
    change Arl Z h4 r .int [.int q0, .int q1, .int q2] at R3
    refine Wk.iload X at_74 76 rfl rfl ?_
    refine Wk.iconst X at_76 77 rfl (3 : Int32) rfl ?_
    refine Wk.icmpT X at_77 86 (by decide) (show ¬ (3 : Int32) < (3 : Int32) from (by decide)) ?_
    refine Wk.iload X at_86 88 rfl rfl ?_
    refine Wk.bipush X at_88 90 rfl (32 : Int32) rfl ?_
    refine Wk.irem X at_90 91 rfl (by decide) ?_
    refine Wk.istore X at_91 93 rfl #[.val (.int p0), .val (.int p1), .val (.int p2), .val (.int p3), .val (.int p4), .val (.int (3 : Int32)), .val (.int q0), .val (.int q1), .val (.int q2), .val (.int q3), .val (.ref r), .val (.int (q0 % (32 : Int32))), .unset, .unset, .unset, .unset, .unset, .unset, .unset, .unset, .unset, .unset] rfl ?_
    refine Wk.iload X at_93 95 rfl rfl ?_
    refine Wk.bipush X at_95 97 rfl (32 : Int32) rfl ?_
    refine Wk.irem X at_97 98 rfl (by decide) ?_
    refine Wk.istore X at_98 100 rfl #[.val (.int p0), .val (.int p1), .val (.int p2), .val (.int p3), .val (.int p4), .val (.int (3 : Int32)), .val (.int q0), .val (.int q1), .val (.int q2), .val (.int q3), .val (.ref r), .val (.int (q0 % (32 : Int32))), .val (.int (q1 % (32 : Int32))), .unset, .unset, .unset, .unset, .unset, .unset, .unset, .unset, .unset] rfl ?_
    refine Wk.iload X at_100 102 rfl rfl ?_
    refine Wk.bipush X at_102 104 rfl (32 : Int32) rfl ?_
    refine Wk.irem X at_104 105 rfl (by decide) ?_
    refine Wk.istore X at_105 107 rfl #[.val (.int p0), .val (.int p1), .val (.int p2), .val (.int p3), .val (.int p4), .val (.int (3 : Int32)), .val (.int q0), .val (.int q1), .val (.int q2), .val (.int q3), .val (.ref r), .val (.int (q0 % (32 : Int32))), .val (.int (q1 % (32 : Int32))), .val (.int (q2 % (32 : Int32))), .unset, .unset, .unset, .unset, .unset, .unset, .unset, .unset] rfl ?_
    refine Wk.iload X at_107 109 rfl rfl ?_
    refine Wk.bipush X at_109 111 rfl (32 : Int32) rfl ?_
    refine Wk.irem X at_111 112 rfl (by decide) ?_
    refine Wk.istore X at_112 114 rfl #[.val (.int p0), .val (.int p1), .val (.int p2), .val (.int p3), .val (.int p4), .val (.int (3 : Int32)), .val (.int q0), .val (.int q1), .val (.int q2), .val (.int q3), .val (.ref r), .val (.int (q0 % (32 : Int32))), .val (.int (q1 % (32 : Int32))), .val (.int (q2 % (32 : Int32))), .val (.int (q3 % (32 : Int32))), .unset, .unset, .unset, .unset, .unset, .unset, .unset] rfl ?_
    have hc0 := own_cls hq0
    have tq0 : ∀ P, stp P q0 = stp P (q0 % (32 : Int32)) := fun P => own_stp hq0
    generalize (q0 % (32 : Int32)) = c0 at hc0 tq0 ⊢
    have hc1 := own_cls hq1
    have tq1 : ∀ P, stp P q1 = stp P (q1 % (32 : Int32)) := fun P => own_stp hq1
    generalize (q1 % (32 : Int32)) = c1 at hc1 tq1 ⊢
    have hc2 := own_cls hq2
    have tq2 : ∀ P, stp P q2 = stp P (q2 % (32 : Int32)) := fun P => own_stp hq2
    generalize (q2 % (32 : Int32)) = c2 at hc2 tq2 ⊢
    have hc3 := own_cls hq3
    have tq3 : ∀ P, stp P q3 = stp P (q3 % (32 : Int32)) := fun P => own_stp hq3
    generalize (q3 % (32 : Int32)) = c3 at hc3 tq3 ⊢
    show Wk p.tables e below _ (T.setTop (mkF m 114 #[.val (.int p0), .val (.int p1), .val (.int p2), .val (.int p3), .val (.int p4), .val (.int (3 : Int32)), .val (.int q0), .val (.int q1), .val (.int q2), .val (.int q3), .val (.ref r), .val (.int c0), .val (.int c1), .val (.int c2), .val (.int c3), .unset, .unset, .unset, .unset, .unset, .unset, .unset] []))
    refine Wk.iload X at_114 116 rfl rfl ?_
    refine Wk.iconst X at_116 117 rfl (1 : Int32) rfl ?_
    refine Wk.icmpF X at_117 120 rfl (show (1 : Int32) < (3 : Int32) from (by decide)) ?_
    refine Wk.iconst X at_120 121 rfl (1 : Int32) rfl ?_
    refine Wk.goto X at_121 125 (by decide) ?_
    refine Wk.istore X at_125 127 rfl #[.val (.int p0), .val (.int p1), .val (.int p2), .val (.int p3), .val (.int p4), .val (.int (3 : Int32)), .val (.int q0), .val (.int q1), .val (.int q2), .val (.int q3), .val (.ref r), .val (.int c0), .val (.int c1), .val (.int c2), .val (.int c3), .val (.int (1 : Int32)), .unset, .unset, .unset, .unset, .unset, .unset] rfl ?_
    refine Wk.iload X at_127 129 rfl rfl ?_
    refine Wk.iconst X at_129 130 rfl (2 : Int32) rfl ?_
    refine Wk.icmpF X at_130 133 rfl (show (2 : Int32) < (3 : Int32) from (by decide)) ?_
    refine Wk.iconst X at_133 134 rfl (1 : Int32) rfl ?_
    refine Wk.goto X at_134 138 (by decide) ?_
    refine Wk.istore X at_138 140 rfl #[.val (.int p0), .val (.int p1), .val (.int p2), .val (.int p3), .val (.int p4), .val (.int (3 : Int32)), .val (.int q0), .val (.int q1), .val (.int q2), .val (.int q3), .val (.ref r), .val (.int c0), .val (.int c1), .val (.int c2), .val (.int c3), .val (.int (1 : Int32)), .val (.int (1 : Int32)), .unset, .unset, .unset, .unset, .unset] rfl ?_
    refine Wk.iload X at_140 142 rfl rfl ?_
    refine Wk.iconst X at_142 143 rfl (3 : Int32) rfl ?_
    refine Wk.icmpT X at_143 150 (by decide) (show ¬ (3 : Int32) < (3 : Int32) from (by decide)) ?_
    refine Wk.iconst X at_150 151 rfl (0 : Int32) rfl ?_
    refine Wk.istore X at_151 153 rfl #[.val (.int p0), .val (.int p1), .val (.int p2), .val (.int p3), .val (.int p4), .val (.int (3 : Int32)), .val (.int q0), .val (.int q1), .val (.int q2), .val (.int q3), .val (.ref r), .val (.int c0), .val (.int c1), .val (.int c2), .val (.int c3), .val (.int (1 : Int32)), .val (.int (1 : Int32)), .val (.int (0 : Int32)), .unset, .unset, .unset, .unset] rfl ?_
    refine Wk.lconst X at_153 154 rfl (0 : Int64) rfl ?_
    refine Wk.lstore X at_154 156 rfl #[.val (.int p0), .val (.int p1), .val (.int p2), .val (.int p3), .val (.int p4), .val (.int (3 : Int32)), .val (.int q0), .val (.int q1), .val (.int q2), .val (.int q3), .val (.ref r), .val (.int c0), .val (.int c1), .val (.int c2), .val (.int c3), .val (.int (1 : Int32)), .val (.int (1 : Int32)), .val (.int (0 : Int32)), .val (.long (0 : Int64)), .second, .unset, .unset] rfl ?_
    refine Wk.iload X at_156 158 rfl rfl ?_
    refine Wk.ifcF X at_158 161 rfl (show (0 : Int32) < (3 : Int32) from (by decide)) ?_
    refine Wk.lload X at_161 163 rfl rfl ?_
    refine Wk.iload X at_163 165 rfl rfl ?_
    refine Wk.join (T.setTop (mkF m 206 #[.val (.int p0), .val (.int p1), .val (.int p2), .val (.int p3), .val (.int p4), .val (.int (3 : Int32)), .val (.int q0), .val (.int q1), .val (.int q2), .val (.int q3), .val (.ref r), .val (.int c0), .val (.int c1), .val (.int c2), .val (.int c3), .val (.int (1 : Int32)), .val (.int (1 : Int32)), .val (.int (0 : Int32)), .val (.long (0 : Int64)), .second, .unset, .unset] [(.int (tw (c1 = c0 ∨ c2 = c0))), (.int c0), (.long (0 : Int64))])) True ?_ ?_
    · intro _
      refine Wk.callS X (t11 hw) (t12 hw) (t3 hw) (t13 hw) (con_bits l Z a0 hw [] _ n0 c0 (tw (c1 = c0 ∨ c2 = c0))) (by decide) pd2 [(.int c0), (.int (tw (c1 = c0 ∨ c2 = c0)))] [(.long (0 : Int64))] rfl rfl rfl rfl 2 (Nat.le_of_eq rfl) (by decide) (by decide) (by decide) (by decide) 1 3 rfl rfl at_206 209 rfl ?_
      rintro _ T _ X ⟨rfl, rfl⟩
      show Wk p.tables e below _ (T.setTop (mkF m 209 #[.val (.int p0), .val (.int p1), .val (.int p2), .val (.int p3), .val (.int p4), .val (.int (3 : Int32)), .val (.int q0), .val (.int q1), .val (.int q2), .val (.int q3), .val (.ref r), .val (.int c0), .val (.int c1), .val (.int c2), .val (.int c3), .val (.int (1 : Int32)), .val (.int (1 : Int32)), .val (.int (0 : Int32)), .val (.long (0 : Int64)), .second, .unset, .unset] [(.long (bitsF c0 (tw (c1 = c0 ∨ c2 = c0)))), (.long (0 : Int64))]))
      refine Wk.lor X at_209 210 rfl ?_
      refine Wk.lstore X at_210 212 rfl #[.val (.int p0), .val (.int p1), .val (.int p2), .val (.int p3), .val (.int p4), .val (.int (3 : Int32)), .val (.int q0), .val (.int q1), .val (.int q2), .val (.int q3), .val (.ref r), .val (.int c0), .val (.int c1), .val (.int c2), .val (.int c3), .val (.int (1 : Int32)), .val (.int (1 : Int32)), .val (.int (0 : Int32)), .val (.long ((0 : Int64) ||| (bitsF c0 (tw (c1 = c0 ∨ c2 = c0))))), .second, .unset, .unset] rfl ?_
      refine Wk.iload X at_212 214 rfl rfl ?_
      refine Wk.iconst X at_214 215 rfl (1 : Int32) rfl ?_
      refine Wk.icmpF X at_215 218 rfl (show (1 : Int32) < (3 : Int32) from (by decide)) ?_
      refine Wk.lload X at_218 220 rfl rfl ?_
      refine Wk.iload X at_220 222 rfl rfl ?_
      refine Wk.join (T.setTop (mkF m 258 #[.val (.int p0), .val (.int p1), .val (.int p2), .val (.int p3), .val (.int p4), .val (.int (3 : Int32)), .val (.int q0), .val (.int q1), .val (.int q2), .val (.int q3), .val (.ref r), .val (.int c0), .val (.int c1), .val (.int c2), .val (.int c3), .val (.int (1 : Int32)), .val (.int (1 : Int32)), .val (.int (0 : Int32)), .val (.long ((0 : Int64) ||| (bitsF c0 (tw (c1 = c0 ∨ c2 = c0))))), .second, .unset, .unset] [(.int (tw (c0 = c1 ∨ c2 = c1))), (.int c1), (.long ((0 : Int64) ||| (bitsF c0 (tw (c1 = c0 ∨ c2 = c0)))))])) True ?_ ?_
      · intro _
        refine Wk.callS X (t11 hw) (t12 hw) (t3 hw) (t13 hw) (con_bits l Z a0 hw [] _ n0 c1 (tw (c0 = c1 ∨ c2 = c1))) (by decide) pd2 [(.int c1), (.int (tw (c0 = c1 ∨ c2 = c1)))] [(.long ((0 : Int64) ||| (bitsF c0 (tw (c1 = c0 ∨ c2 = c0)))))] rfl rfl rfl rfl 2 (Nat.le_of_eq rfl) (by decide) (by decide) (by decide) (by decide) 1 3 rfl rfl at_258 261 rfl ?_
        rintro _ T _ X ⟨rfl, rfl⟩
        show Wk p.tables e below _ (T.setTop (mkF m 261 #[.val (.int p0), .val (.int p1), .val (.int p2), .val (.int p3), .val (.int p4), .val (.int (3 : Int32)), .val (.int q0), .val (.int q1), .val (.int q2), .val (.int q3), .val (.ref r), .val (.int c0), .val (.int c1), .val (.int c2), .val (.int c3), .val (.int (1 : Int32)), .val (.int (1 : Int32)), .val (.int (0 : Int32)), .val (.long ((0 : Int64) ||| (bitsF c0 (tw (c1 = c0 ∨ c2 = c0))))), .second, .unset, .unset] [(.long (bitsF c1 (tw (c0 = c1 ∨ c2 = c1)))), (.long ((0 : Int64) ||| (bitsF c0 (tw (c1 = c0 ∨ c2 = c0)))))]))
        refine Wk.lor X at_261 262 rfl ?_
        refine Wk.lstore X at_262 264 rfl #[.val (.int p0), .val (.int p1), .val (.int p2), .val (.int p3), .val (.int p4), .val (.int (3 : Int32)), .val (.int q0), .val (.int q1), .val (.int q2), .val (.int q3), .val (.ref r), .val (.int c0), .val (.int c1), .val (.int c2), .val (.int c3), .val (.int (1 : Int32)), .val (.int (1 : Int32)), .val (.int (0 : Int32)), .val (.long (((0 : Int64) ||| (bitsF c0 (tw (c1 = c0 ∨ c2 = c0)))) ||| (bitsF c1 (tw (c0 = c1 ∨ c2 = c1))))), .second, .unset, .unset] rfl ?_
        refine Wk.iload X at_264 266 rfl rfl ?_
        refine Wk.iconst X at_266 267 rfl (2 : Int32) rfl ?_
        refine Wk.icmpF X at_267 270 rfl (show (2 : Int32) < (3 : Int32) from (by decide)) ?_
        refine Wk.lload X at_270 272 rfl rfl ?_
        refine Wk.iload X at_272 274 rfl rfl ?_
        refine Wk.join (T.setTop (mkF m 305 #[.val (.int p0), .val (.int p1), .val (.int p2), .val (.int p3), .val (.int p4), .val (.int (3 : Int32)), .val (.int q0), .val (.int q1), .val (.int q2), .val (.int q3), .val (.ref r), .val (.int c0), .val (.int c1), .val (.int c2), .val (.int c3), .val (.int (1 : Int32)), .val (.int (1 : Int32)), .val (.int (0 : Int32)), .val (.long (((0 : Int64) ||| (bitsF c0 (tw (c1 = c0 ∨ c2 = c0)))) ||| (bitsF c1 (tw (c0 = c1 ∨ c2 = c1))))), .second, .unset, .unset] [(.int (tw (c0 = c2 ∨ c1 = c2))), (.int c2), (.long (((0 : Int64) ||| (bitsF c0 (tw (c1 = c0 ∨ c2 = c0)))) ||| (bitsF c1 (tw (c0 = c1 ∨ c2 = c1)))))])) True ?_ ?_
        · intro _
          refine Wk.callS X (t11 hw) (t12 hw) (t3 hw) (t13 hw) (con_bits l Z a0 hw [] _ n0 c2 (tw (c0 = c2 ∨ c1 = c2))) (by decide) pd2 [(.int c2), (.int (tw (c0 = c2 ∨ c1 = c2)))] [(.long (((0 : Int64) ||| (bitsF c0 (tw (c1 = c0 ∨ c2 = c0)))) ||| (bitsF c1 (tw (c0 = c1 ∨ c2 = c1)))))] rfl rfl rfl rfl 2 (Nat.le_of_eq rfl) (by decide) (by decide) (by decide) (by decide) 1 3 rfl rfl at_305 308 rfl ?_
          rintro _ T _ X ⟨rfl, rfl⟩
          show Wk p.tables e below _ (T.setTop (mkF m 308 #[.val (.int p0), .val (.int p1), .val (.int p2), .val (.int p3), .val (.int p4), .val (.int (3 : Int32)), .val (.int q0), .val (.int q1), .val (.int q2), .val (.int q3), .val (.ref r), .val (.int c0), .val (.int c1), .val (.int c2), .val (.int c3), .val (.int (1 : Int32)), .val (.int (1 : Int32)), .val (.int (0 : Int32)), .val (.long (((0 : Int64) ||| (bitsF c0 (tw (c1 = c0 ∨ c2 = c0)))) ||| (bitsF c1 (tw (c0 = c1 ∨ c2 = c1))))), .second, .unset, .unset] [(.long (bitsF c2 (tw (c0 = c2 ∨ c1 = c2)))), (.long (((0 : Int64) ||| (bitsF c0 (tw (c1 = c0 ∨ c2 = c0)))) ||| (bitsF c1 (tw (c0 = c1 ∨ c2 = c1)))))]))
          refine Wk.lor X at_308 309 rfl ?_
          refine Wk.lstore X at_309 311 rfl #[.val (.int p0), .val (.int p1), .val (.int p2), .val (.int p3), .val (.int p4), .val (.int (3 : Int32)), .val (.int q0), .val (.int q1), .val (.int q2), .val (.int q3), .val (.ref r), .val (.int c0), .val (.int c1), .val (.int c2), .val (.int c3), .val (.int (1 : Int32)), .val (.int (1 : Int32)), .val (.int (0 : Int32)), .val (.long ((((0 : Int64) ||| (bitsF c0 (tw (c1 = c0 ∨ c2 = c0)))) ||| (bitsF c1 (tw (c0 = c1 ∨ c2 = c1)))) ||| (bitsF c2 (tw (c0 = c2 ∨ c1 = c2))))), .second, .unset, .unset] rfl ?_
          refine Wk.iload X at_311 313 rfl rfl ?_
          refine Wk.iconst X at_313 314 rfl (3 : Int32) rfl ?_
          refine Wk.icmpT X at_314 353 (by decide) (show ¬ (3 : Int32) < (3 : Int32) from (by decide)) ?_
          refine Wk.aload X at_353 355 rfl rfl rfl ?_
          refine Wk.callS X (t7 hw) (t8 hw) (t9 hw) (t10 hw) (con_profile l Z a0 hw [] _ n0 r [q0, q1, q2] R3) (by decide) pd1 [(.ref r)] [] rfl rfl rfl rfl 0 (Nat.le_of_eq rfl) (by decide) (by decide) (by decide) (by decide) 1 3 rfl rfl at_355 358 rfl ?_
          rintro _ T _ X ⟨rfl, rfl⟩
          show Wk p.tables e below _ (T.setTop (mkF m 358 #[.val (.int p0), .val (.int p1), .val (.int p2), .val (.int p3), .val (.int p4), .val (.int (3 : Int32)), .val (.int q0), .val (.int q1), .val (.int q2), .val (.int q3), .val (.ref r), .val (.int c0), .val (.int c1), .val (.int c2), .val (.int c3), .val (.int (1 : Int32)), .val (.int (1 : Int32)), .val (.int (0 : Int32)), .val (.long ((((0 : Int64) ||| (bitsF c0 (tw (c1 = c0 ∨ c2 = c0)))) ||| (bitsF c1 (tw (c0 = c1 ∨ c2 = c1)))) ||| (bitsF c2 (tw (c0 = c2 ∨ c1 = c2))))), .second, .unset, .unset] [(.long (prof [q0, q1, q2] 0))]))
          have hE : prof [q0, q1, q2] 0 = ((((0 : Int64) ||| (bitsF c0 (tw (c1 = c0 ∨ c2 = c0)))) ||| (bitsF c1 (tw (c0 = c1 ∨ c2 = c1)))) ||| (bitsF c2 (tw (c0 = c2 ∨ c1 = c2)))) := by
            show stp (stp (stp 0 q0) q1) q2 = _
            rw [tq0, tq1, tq2]
            exact own_law3 hc0 hc1 hc2
          refine Wk.lstore X at_358 360 rfl #[.val (.int p0), .val (.int p1), .val (.int p2), .val (.int p3), .val (.int p4), .val (.int (3 : Int32)), .val (.int q0), .val (.int q1), .val (.int q2), .val (.int q3), .val (.ref r), .val (.int c0), .val (.int c1), .val (.int c2), .val (.int c3), .val (.int (1 : Int32)), .val (.int (1 : Int32)), .val (.int (0 : Int32)), .val (.long ((((0 : Int64) ||| (bitsF c0 (tw (c1 = c0 ∨ c2 = c0)))) ||| (bitsF c1 (tw (c0 = c1 ∨ c2 = c1)))) ||| (bitsF c2 (tw (c0 = c2 ∨ c1 = c2))))), .second, .val (.long (prof [q0, q1, q2] 0)), .second] rfl ?_
          refine Wk.lload X at_360 362 rfl rfl ?_
          refine Wk.lload X at_362 364 rfl rfl ?_
          refine Wk.lcmp X at_364 365 rfl ?_
          refine Wk.ifcF X at_365 368 rfl (show (if (prof [q0, q1, q2] 0) > ((((0 : Int64) ||| (bitsF c0 (tw (c1 = c0 ∨ c2 = c0)))) ||| (bitsF c1 (tw (c0 = c1 ∨ c2 = c1)))) ||| (bitsF c2 (tw (c0 = c2 ∨ c1 = c2)))) then 1 else if (prof [q0, q1, q2] 0) = ((((0 : Int64) ||| (bitsF c0 (tw (c1 = c0 ∨ c2 = c0)))) ||| (bitsF c1 (tw (c0 = c1 ∨ c2 = c1)))) ||| (bitsF c2 (tw (c0 = c2 ∨ c1 = c2)))) then 0 else -1) = (0 : Int32) from (by rw [hE, if_neg Int64.lt_irrefl, if_pos rfl])) ?_
          refine Wk.iconst X at_368 369 rfl (1 : Int32) rfl ?_
          refine Wk.goto X at_369 373 (by decide) ?_
          exact Wk.zreturn X at_373 (by decide) (by decide) (Or.inr rfl) rfl
        · intro J
          refine Wk.iload X at_274 276 rfl rfl ?_
          refine Wk.iload X at_276 278 rfl rfl ?_
          refine Wk.icmp X at_278 300 281 (by decide) rfl ?_ ?_
          · intro e2_0; change c0 = c2 at e2_0
            refine Wk.iconst X at_300 301 rfl (1 : Int32) rfl ?_
            refine Wk.goto X at_301 305 (by decide) ?_
            rw [show (tw (c0 = c2 ∨ c1 = c2)) = (1 : Int32) from by simp [tw, e2_0]] at J
            exact J trivial
          · intro e2_0; change ¬ c0 = c2 at e2_0
            refine Wk.iload X at_281 283 rfl rfl ?_
            refine Wk.iload X at_283 285 rfl rfl ?_
            refine Wk.icmp X at_285 300 288 (by decide) rfl ?_ ?_
            · intro e2_1; change c1 = c2 at e2_1
              refine Wk.iconst X at_300 301 rfl (1 : Int32) rfl ?_
              refine Wk.goto X at_301 305 (by decide) ?_
              rw [show (tw (c0 = c2 ∨ c1 = c2)) = (1 : Int32) from by simp [tw, e2_0, e2_1]] at J
              exact J trivial
            · intro e2_1; change ¬ c1 = c2 at e2_1
              refine Wk.iload X at_288 290 rfl rfl ?_
              refine Wk.ifcT X at_290 304 (by decide) (show (0 : Int32) = (0 : Int32) from (by decide)) ?_
              refine Wk.iconst X at_304 305 rfl (0 : Int32) rfl ?_
              rw [show (tw (c0 = c2 ∨ c1 = c2)) = (0 : Int32) from by simp [tw, e2_0, e2_1]] at J
              exact J trivial
      · intro J
        refine Wk.iload X at_222 224 rfl rfl ?_
        refine Wk.iload X at_224 226 rfl rfl ?_
        refine Wk.icmp X at_226 253 229 (by decide) rfl ?_ ?_
        · intro e1_0; change c0 = c1 at e1_0
          refine Wk.iconst X at_253 254 rfl (1 : Int32) rfl ?_
          refine Wk.goto X at_254 258 (by decide) ?_
          rw [show (tw (c0 = c1 ∨ c2 = c1)) = (1 : Int32) from by simp [tw, e1_0]] at J
          exact J trivial
        · intro e1_0; change ¬ c0 = c1 at e1_0
          refine Wk.iload X at_229 231 rfl rfl ?_
          refine Wk.ifcF X at_231 234 rfl (show ¬ (1 : Int32) = (0 : Int32) from (by decide)) ?_
          refine Wk.iload X at_234 236 rfl rfl ?_
          refine Wk.iload X at_236 238 rfl rfl ?_
          refine Wk.icmp X at_238 253 241 (by decide) rfl ?_ ?_
          · intro e1_1; change c2 = c1 at e1_1
            refine Wk.iconst X at_253 254 rfl (1 : Int32) rfl ?_
            refine Wk.goto X at_254 258 (by decide) ?_
            rw [show (tw (c0 = c1 ∨ c2 = c1)) = (1 : Int32) from by simp [tw, e1_0, e1_1]] at J
            exact J trivial
          · intro e1_1; change ¬ c2 = c1 at e1_1
            refine Wk.iload X at_241 243 rfl rfl ?_
            refine Wk.ifcT X at_243 257 (by decide) (show (0 : Int32) = (0 : Int32) from (by decide)) ?_
            refine Wk.iconst X at_257 258 rfl (0 : Int32) rfl ?_
            rw [show (tw (c0 = c1 ∨ c2 = c1)) = (0 : Int32) from by simp [tw, e1_0, e1_1]] at J
            exact J trivial
    · intro J
      refine Wk.iload X at_165 167 rfl rfl ?_
      refine Wk.ifcF X at_167 170 rfl (show ¬ (1 : Int32) = (0 : Int32) from (by decide)) ?_
      refine Wk.iload X at_170 172 rfl rfl ?_
      refine Wk.iload X at_172 174 rfl rfl ?_
      refine Wk.icmp X at_174 201 177 (by decide) rfl ?_ ?_
      · intro e0_0; change c1 = c0 at e0_0
        refine Wk.iconst X at_201 202 rfl (1 : Int32) rfl ?_
        refine Wk.goto X at_202 206 (by decide) ?_
        rw [show (tw (c1 = c0 ∨ c2 = c0)) = (1 : Int32) from by simp [tw, e0_0]] at J
        exact J trivial
      · intro e0_0; change ¬ c1 = c0 at e0_0
        refine Wk.iload X at_177 179 rfl rfl ?_
        refine Wk.ifcF X at_179 182 rfl (show ¬ (1 : Int32) = (0 : Int32) from (by decide)) ?_
        refine Wk.iload X at_182 184 rfl rfl ?_
        refine Wk.iload X at_184 186 rfl rfl ?_
        refine Wk.icmp X at_186 201 189 (by decide) rfl ?_ ?_
        · intro e0_1; change c2 = c0 at e0_1
          refine Wk.iconst X at_201 202 rfl (1 : Int32) rfl ?_
          refine Wk.goto X at_202 206 (by decide) ?_
          rw [show (tw (c1 = c0 ∨ c2 = c0)) = (1 : Int32) from by simp [tw, e0_0, e0_1]] at J
          exact J trivial
        · intro e0_1; change ¬ c2 = c0 at e0_1
          refine Wk.iload X at_189 191 rfl rfl ?_
          refine Wk.ifcT X at_191 205 (by decide) (show (0 : Int32) = (0 : Int32) from (by decide)) ?_
          refine Wk.iconst X at_205 206 rfl (0 : Int32) rfl ?_
          rw [show (tw (c1 = c0 ∨ c2 = c0)) = (0 : Int32) from by simp [tw, e0_0, e0_1]] at J
          exact J trivial
  · show Wk p.tables e below _ (T.setTop (mkF m 35 #[.val (.int p0), .val (.int p1), .val (.int p2), .val (.int p3), .val (.int p4), .val (.int (4 : Int32)), .val (.int q0), .val (.int q1), .val (.int q2), .val (.int q3), .unset, .unset, .unset, .unset, .unset, .unset, .unset, .unset, .unset, .unset, .unset, .unset] [(.int (4 : Int32))]))
    refine Wk.newarray (aty := .int) X (t6 hw) at_35 37 rfl 4 rfl 4 (Nat.le_refl _) (by decide) (by decide) (by decide) ?_
    intro T h1 r gr X E1 R0
    change Arl Z h1 r .int [.int 0, .int 0, .int 0, .int 0] at R0
    have hr : n0 ≤ r := by omega
    refine Wk.astore X at_37 39 rfl #[.val (.int p0), .val (.int p1), .val (.int p2), .val (.int p3), .val (.int p4), .val (.int (4 : Int32)), .val (.int q0), .val (.int q1), .val (.int q2), .val (.int q3), .val (.ref r), .unset, .unset, .unset, .unset, .unset, .unset, .unset, .unset, .unset, .unset, .unset] rfl rfl ?_
    refine Wk.iload X at_39 41 rfl rfl ?_
    refine Wk.ifcF X at_41 44 rfl (show (0 : Int32) < (4 : Int32) from (by decide)) ?_
    refine Wk.aload X at_44 46 rfl rfl rfl ?_
    refine Wk.iconst X at_46 47 rfl (0 : Int32) rfl ?_
    refine Wk.iload X at_47 49 rfl rfl ?_
    refine Wk.iastore X R0 hr 0 rfl (Nat.le_of_ble_eq_true rfl) at_49 50 rfl ?_
    intro T h2 X W1
    have R1 := R0.set W1
    change Arl Z h2 r .int [.int q0, .int 0, .int 0, .int 0] at R1
    refine Wk.iload X at_50 52 rfl rfl ?_
    refine Wk.iconst X at_52 53 rfl (1 : Int32) rfl ?_
    refine Wk.icmpF X at_53 56 rfl (show (1 : Int32) < (4 : Int32) from (by decide)) ?_
    refine Wk.aload X at_56 58 rfl rfl rfl ?_
    refine Wk.iconst X at_58 59 rfl (1 : Int32) rfl ?_
    refine Wk.iload X at_59 61 rfl rfl ?_
    refine Wk.iastore X R1 hr 1 rfl (Nat.le_of_ble_eq_true rfl) at_61 62 rfl ?_
    intro T h3 X W2
    have R2 := R1.set W2
    change Arl Z h3 r .int [.int q0, .int q1, .int 0, .int 0] at R2
    refine Wk.iload X at_62 64 rfl rfl ?_
    refine Wk.iconst X at_64 65 rfl (2 : Int32) rfl ?_
    refine Wk.icmpF X at_65 68 rfl (show (2 : Int32) < (4 : Int32) from (by decide)) ?_
    refine Wk.aload X at_68 70 rfl rfl rfl ?_
    refine Wk.iconst X at_70 71 rfl (2 : Int32) rfl ?_
    refine Wk.iload X at_71 73 rfl rfl ?_
    refine Wk.iastore X R2 hr 2 rfl (Nat.le_of_ble_eq_true rfl) at_73 74 rfl ?_
    intro T h4 X W3
    have R3 := R2.set W3
    change Arl Z h4 r .int [.int q0, .int q1, .int q2, .int 0] at R3
    refine Wk.iload X at_74 76 rfl rfl ?_
    refine Wk.iconst X at_76 77 rfl (3 : Int32) rfl ?_
    refine Wk.icmpF X at_77 80 rfl (show (3 : Int32) < (4 : Int32) from (by decide)) ?_
    refine Wk.aload X at_80 82 rfl rfl rfl ?_
    refine Wk.iconst X at_82 83 rfl (3 : Int32) rfl ?_
    refine Wk.iload X at_83 85 rfl rfl ?_
    refine Wk.iastore X R3 hr 3 rfl (Nat.le_of_ble_eq_true rfl) at_85 86 rfl ?_
    intro T h5 X W4
    have R4 := R3.set W4
    change Arl Z h5 r .int [.int q0, .int q1, .int q2, .int q3] at R4
    refine Wk.iload X at_86 88 rfl rfl ?_
    refine Wk.bipush X at_88 90 rfl (32 : Int32) rfl ?_
    refine Wk.irem X at_90 91 rfl (by decide) ?_
    refine Wk.istore X at_91 93 rfl #[.val (.int p0), .val (.int p1), .val (.int p2), .val (.int p3), .val (.int p4), .val (.int (4 : Int32)), .val (.int q0), .val (.int q1), .val (.int q2), .val (.int q3), .val (.ref r), .val (.int (q0 % (32 : Int32))), .unset, .unset, .unset, .unset, .unset, .unset, .unset, .unset, .unset, .unset] rfl ?_
    refine Wk.iload X at_93 95 rfl rfl ?_
    refine Wk.bipush X at_95 97 rfl (32 : Int32) rfl ?_
    refine Wk.irem X at_97 98 rfl (by decide) ?_
    refine Wk.istore X at_98 100 rfl #[.val (.int p0), .val (.int p1), .val (.int p2), .val (.int p3), .val (.int p4), .val (.int (4 : Int32)), .val (.int q0), .val (.int q1), .val (.int q2), .val (.int q3), .val (.ref r), .val (.int (q0 % (32 : Int32))), .val (.int (q1 % (32 : Int32))), .unset, .unset, .unset, .unset, .unset, .unset, .unset, .unset, .unset] rfl ?_
    refine Wk.iload X at_100 102 rfl rfl ?_
    refine Wk.bipush X at_102 104 rfl (32 : Int32) rfl ?_
    refine Wk.irem X at_104 105 rfl (by decide) ?_
    refine Wk.istore X at_105 107 rfl #[.val (.int p0), .val (.int p1), .val (.int p2), .val (.int p3), .val (.int p4), .val (.int (4 : Int32)), .val (.int q0), .val (.int q1), .val (.int q2), .val (.int q3), .val (.ref r), .val (.int (q0 % (32 : Int32))), .val (.int (q1 % (32 : Int32))), .val (.int (q2 % (32 : Int32))), .unset, .unset, .unset, .unset, .unset, .unset, .unset, .unset] rfl ?_
    refine Wk.iload X at_107 109 rfl rfl ?_
    refine Wk.bipush X at_109 111 rfl (32 : Int32) rfl ?_
    refine Wk.irem X at_111 112 rfl (by decide) ?_
    refine Wk.istore X at_112 114 rfl #[.val (.int p0), .val (.int p1), .val (.int p2), .val (.int p3), .val (.int p4), .val (.int (4 : Int32)), .val (.int q0), .val (.int q1), .val (.int q2), .val (.int q3), .val (.ref r), .val (.int (q0 % (32 : Int32))), .val (.int (q1 % (32 : Int32))), .val (.int (q2 % (32 : Int32))), .val (.int (q3 % (32 : Int32))), .unset, .unset, .unset, .unset, .unset, .unset, .unset] rfl ?_
    have hc0 := own_cls hq0
    have tq0 : ∀ P, stp P q0 = stp P (q0 % (32 : Int32)) := fun P => own_stp hq0
    generalize (q0 % (32 : Int32)) = c0 at hc0 tq0 ⊢
    have hc1 := own_cls hq1
    have tq1 : ∀ P, stp P q1 = stp P (q1 % (32 : Int32)) := fun P => own_stp hq1
    generalize (q1 % (32 : Int32)) = c1 at hc1 tq1 ⊢
    have hc2 := own_cls hq2
    have tq2 : ∀ P, stp P q2 = stp P (q2 % (32 : Int32)) := fun P => own_stp hq2
    generalize (q2 % (32 : Int32)) = c2 at hc2 tq2 ⊢
    have hc3 := own_cls hq3
    have tq3 : ∀ P, stp P q3 = stp P (q3 % (32 : Int32)) := fun P => own_stp hq3
    generalize (q3 % (32 : Int32)) = c3 at hc3 tq3 ⊢
    show Wk p.tables e below _ (T.setTop (mkF m 114 #[.val (.int p0), .val (.int p1), .val (.int p2), .val (.int p3), .val (.int p4), .val (.int (4 : Int32)), .val (.int q0), .val (.int q1), .val (.int q2), .val (.int q3), .val (.ref r), .val (.int c0), .val (.int c1), .val (.int c2), .val (.int c3), .unset, .unset, .unset, .unset, .unset, .unset, .unset] []))
    refine Wk.iload X at_114 116 rfl rfl ?_
    refine Wk.iconst X at_116 117 rfl (1 : Int32) rfl ?_
    refine Wk.icmpF X at_117 120 rfl (show (1 : Int32) < (4 : Int32) from (by decide)) ?_
    refine Wk.iconst X at_120 121 rfl (1 : Int32) rfl ?_
    refine Wk.goto X at_121 125 (by decide) ?_
    refine Wk.istore X at_125 127 rfl #[.val (.int p0), .val (.int p1), .val (.int p2), .val (.int p3), .val (.int p4), .val (.int (4 : Int32)), .val (.int q0), .val (.int q1), .val (.int q2), .val (.int q3), .val (.ref r), .val (.int c0), .val (.int c1), .val (.int c2), .val (.int c3), .val (.int (1 : Int32)), .unset, .unset, .unset, .unset, .unset, .unset] rfl ?_
    refine Wk.iload X at_127 129 rfl rfl ?_
    refine Wk.iconst X at_129 130 rfl (2 : Int32) rfl ?_
    refine Wk.icmpF X at_130 133 rfl (show (2 : Int32) < (4 : Int32) from (by decide)) ?_
    refine Wk.iconst X at_133 134 rfl (1 : Int32) rfl ?_
    refine Wk.goto X at_134 138 (by decide) ?_
    refine Wk.istore X at_138 140 rfl #[.val (.int p0), .val (.int p1), .val (.int p2), .val (.int p3), .val (.int p4), .val (.int (4 : Int32)), .val (.int q0), .val (.int q1), .val (.int q2), .val (.int q3), .val (.ref r), .val (.int c0), .val (.int c1), .val (.int c2), .val (.int c3), .val (.int (1 : Int32)), .val (.int (1 : Int32)), .unset, .unset, .unset, .unset, .unset] rfl ?_
    refine Wk.iload X at_140 142 rfl rfl ?_
    refine Wk.iconst X at_142 143 rfl (3 : Int32) rfl ?_
    refine Wk.icmpF X at_143 146 rfl (show (3 : Int32) < (4 : Int32) from (by decide)) ?_
    refine Wk.iconst X at_146 147 rfl (1 : Int32) rfl ?_
    refine Wk.goto X at_147 151 (by decide) ?_
    refine Wk.istore X at_151 153 rfl #[.val (.int p0), .val (.int p1), .val (.int p2), .val (.int p3), .val (.int p4), .val (.int (4 : Int32)), .val (.int q0), .val (.int q1), .val (.int q2), .val (.int q3), .val (.ref r), .val (.int c0), .val (.int c1), .val (.int c2), .val (.int c3), .val (.int (1 : Int32)), .val (.int (1 : Int32)), .val (.int (1 : Int32)), .unset, .unset, .unset, .unset] rfl ?_
    refine Wk.lconst X at_153 154 rfl (0 : Int64) rfl ?_
    refine Wk.lstore X at_154 156 rfl #[.val (.int p0), .val (.int p1), .val (.int p2), .val (.int p3), .val (.int p4), .val (.int (4 : Int32)), .val (.int q0), .val (.int q1), .val (.int q2), .val (.int q3), .val (.ref r), .val (.int c0), .val (.int c1), .val (.int c2), .val (.int c3), .val (.int (1 : Int32)), .val (.int (1 : Int32)), .val (.int (1 : Int32)), .val (.long (0 : Int64)), .second, .unset, .unset] rfl ?_
    refine Wk.iload X at_156 158 rfl rfl ?_
    refine Wk.ifcF X at_158 161 rfl (show (0 : Int32) < (4 : Int32) from (by decide)) ?_
    refine Wk.lload X at_161 163 rfl rfl ?_
    refine Wk.iload X at_163 165 rfl rfl ?_
    refine Wk.join (T.setTop (mkF m 206 #[.val (.int p0), .val (.int p1), .val (.int p2), .val (.int p3), .val (.int p4), .val (.int (4 : Int32)), .val (.int q0), .val (.int q1), .val (.int q2), .val (.int q3), .val (.ref r), .val (.int c0), .val (.int c1), .val (.int c2), .val (.int c3), .val (.int (1 : Int32)), .val (.int (1 : Int32)), .val (.int (1 : Int32)), .val (.long (0 : Int64)), .second, .unset, .unset] [(.int (tw (c1 = c0 ∨ c2 = c0 ∨ c3 = c0))), (.int c0), (.long (0 : Int64))])) True ?_ ?_
    · intro _
      refine Wk.callS X (t11 hw) (t12 hw) (t3 hw) (t13 hw) (con_bits l Z a0 hw [] _ n0 c0 (tw (c1 = c0 ∨ c2 = c0 ∨ c3 = c0))) (by decide) pd2 [(.int c0), (.int (tw (c1 = c0 ∨ c2 = c0 ∨ c3 = c0)))] [(.long (0 : Int64))] rfl rfl rfl rfl 2 (Nat.le_of_eq rfl) (by decide) (by decide) (by decide) (by decide) 1 4 rfl rfl at_206 209 rfl ?_
      rintro _ T _ X ⟨rfl, rfl⟩
      show Wk p.tables e below _ (T.setTop (mkF m 209 #[.val (.int p0), .val (.int p1), .val (.int p2), .val (.int p3), .val (.int p4), .val (.int (4 : Int32)), .val (.int q0), .val (.int q1), .val (.int q2), .val (.int q3), .val (.ref r), .val (.int c0), .val (.int c1), .val (.int c2), .val (.int c3), .val (.int (1 : Int32)), .val (.int (1 : Int32)), .val (.int (1 : Int32)), .val (.long (0 : Int64)), .second, .unset, .unset] [(.long (bitsF c0 (tw (c1 = c0 ∨ c2 = c0 ∨ c3 = c0)))), (.long (0 : Int64))]))
      refine Wk.lor X at_209 210 rfl ?_
      refine Wk.lstore X at_210 212 rfl #[.val (.int p0), .val (.int p1), .val (.int p2), .val (.int p3), .val (.int p4), .val (.int (4 : Int32)), .val (.int q0), .val (.int q1), .val (.int q2), .val (.int q3), .val (.ref r), .val (.int c0), .val (.int c1), .val (.int c2), .val (.int c3), .val (.int (1 : Int32)), .val (.int (1 : Int32)), .val (.int (1 : Int32)), .val (.long ((0 : Int64) ||| (bitsF c0 (tw (c1 = c0 ∨ c2 = c0 ∨ c3 = c0))))), .second, .unset, .unset] rfl ?_
      refine Wk.iload X at_212 214 rfl rfl ?_
      refine Wk.iconst X at_214 215 rfl (1 : Int32) rfl ?_
      refine Wk.icmpF X at_215 218 rfl (show (1 : Int32) < (4 : Int32) from (by decide)) ?_
      refine Wk.lload X at_218 220 rfl rfl ?_
      refine Wk.iload X at_220 222 rfl rfl ?_
      refine Wk.join (T.setTop (mkF m 258 #[.val (.int p0), .val (.int p1), .val (.int p2), .val (.int p3), .val (.int p4), .val (.int (4 : Int32)), .val (.int q0), .val (.int q1), .val (.int q2), .val (.int q3), .val (.ref r), .val (.int c0), .val (.int c1), .val (.int c2), .val (.int c3), .val (.int (1 : Int32)), .val (.int (1 : Int32)), .val (.int (1 : Int32)), .val (.long ((0 : Int64) ||| (bitsF c0 (tw (c1 = c0 ∨ c2 = c0 ∨ c3 = c0))))), .second, .unset, .unset] [(.int (tw (c0 = c1 ∨ c2 = c1 ∨ c3 = c1))), (.int c1), (.long ((0 : Int64) ||| (bitsF c0 (tw (c1 = c0 ∨ c2 = c0 ∨ c3 = c0)))))])) True ?_ ?_
      · intro _
        refine Wk.callS X (t11 hw) (t12 hw) (t3 hw) (t13 hw) (con_bits l Z a0 hw [] _ n0 c1 (tw (c0 = c1 ∨ c2 = c1 ∨ c3 = c1))) (by decide) pd2 [(.int c1), (.int (tw (c0 = c1 ∨ c2 = c1 ∨ c3 = c1)))] [(.long ((0 : Int64) ||| (bitsF c0 (tw (c1 = c0 ∨ c2 = c0 ∨ c3 = c0)))))] rfl rfl rfl rfl 2 (Nat.le_of_eq rfl) (by decide) (by decide) (by decide) (by decide) 1 4 rfl rfl at_258 261 rfl ?_
        rintro _ T _ X ⟨rfl, rfl⟩
        show Wk p.tables e below _ (T.setTop (mkF m 261 #[.val (.int p0), .val (.int p1), .val (.int p2), .val (.int p3), .val (.int p4), .val (.int (4 : Int32)), .val (.int q0), .val (.int q1), .val (.int q2), .val (.int q3), .val (.ref r), .val (.int c0), .val (.int c1), .val (.int c2), .val (.int c3), .val (.int (1 : Int32)), .val (.int (1 : Int32)), .val (.int (1 : Int32)), .val (.long ((0 : Int64) ||| (bitsF c0 (tw (c1 = c0 ∨ c2 = c0 ∨ c3 = c0))))), .second, .unset, .unset] [(.long (bitsF c1 (tw (c0 = c1 ∨ c2 = c1 ∨ c3 = c1)))), (.long ((0 : Int64) ||| (bitsF c0 (tw (c1 = c0 ∨ c2 = c0 ∨ c3 = c0)))))]))
        refine Wk.lor X at_261 262 rfl ?_
        refine Wk.lstore X at_262 264 rfl #[.val (.int p0), .val (.int p1), .val (.int p2), .val (.int p3), .val (.int p4), .val (.int (4 : Int32)), .val (.int q0), .val (.int q1), .val (.int q2), .val (.int q3), .val (.ref r), .val (.int c0), .val (.int c1), .val (.int c2), .val (.int c3), .val (.int (1 : Int32)), .val (.int (1 : Int32)), .val (.int (1 : Int32)), .val (.long (((0 : Int64) ||| (bitsF c0 (tw (c1 = c0 ∨ c2 = c0 ∨ c3 = c0)))) ||| (bitsF c1 (tw (c0 = c1 ∨ c2 = c1 ∨ c3 = c1))))), .second, .unset, .unset] rfl ?_
        refine Wk.iload X at_264 266 rfl rfl ?_
        refine Wk.iconst X at_266 267 rfl (2 : Int32) rfl ?_
        refine Wk.icmpF X at_267 270 rfl (show (2 : Int32) < (4 : Int32) from (by decide)) ?_
        refine Wk.lload X at_270 272 rfl rfl ?_
        refine Wk.iload X at_272 274 rfl rfl ?_
        refine Wk.join (T.setTop (mkF m 305 #[.val (.int p0), .val (.int p1), .val (.int p2), .val (.int p3), .val (.int p4), .val (.int (4 : Int32)), .val (.int q0), .val (.int q1), .val (.int q2), .val (.int q3), .val (.ref r), .val (.int c0), .val (.int c1), .val (.int c2), .val (.int c3), .val (.int (1 : Int32)), .val (.int (1 : Int32)), .val (.int (1 : Int32)), .val (.long (((0 : Int64) ||| (bitsF c0 (tw (c1 = c0 ∨ c2 = c0 ∨ c3 = c0)))) ||| (bitsF c1 (tw (c0 = c1 ∨ c2 = c1 ∨ c3 = c1))))), .second, .unset, .unset] [(.int (tw (c0 = c2 ∨ c1 = c2 ∨ c3 = c2))), (.int c2), (.long (((0 : Int64) ||| (bitsF c0 (tw (c1 = c0 ∨ c2 = c0 ∨ c3 = c0)))) ||| (bitsF c1 (tw (c0 = c1 ∨ c2 = c1 ∨ c3 = c1)))))])) True ?_ ?_
        · intro _
          refine Wk.callS X (t11 hw) (t12 hw) (t3 hw) (t13 hw) (con_bits l Z a0 hw [] _ n0 c2 (tw (c0 = c2 ∨ c1 = c2 ∨ c3 = c2))) (by decide) pd2 [(.int c2), (.int (tw (c0 = c2 ∨ c1 = c2 ∨ c3 = c2)))] [(.long (((0 : Int64) ||| (bitsF c0 (tw (c1 = c0 ∨ c2 = c0 ∨ c3 = c0)))) ||| (bitsF c1 (tw (c0 = c1 ∨ c2 = c1 ∨ c3 = c1)))))] rfl rfl rfl rfl 2 (Nat.le_of_eq rfl) (by decide) (by decide) (by decide) (by decide) 1 4 rfl rfl at_305 308 rfl ?_
          rintro _ T _ X ⟨rfl, rfl⟩
          show Wk p.tables e below _ (T.setTop (mkF m 308 #[.val (.int p0), .val (.int p1), .val (.int p2), .val (.int p3), .val (.int p4), .val (.int (4 : Int32)), .val (.int q0), .val (.int q1), .val (.int q2), .val (.int q3), .val (.ref r), .val (.int c0), .val (.int c1), .val (.int c2), .val (.int c3), .val (.int (1 : Int32)), .val (.int (1 : Int32)), .val (.int (1 : Int32)), .val (.long (((0 : Int64) ||| (bitsF c0 (tw (c1 = c0 ∨ c2 = c0 ∨ c3 = c0)))) ||| (bitsF c1 (tw (c0 = c1 ∨ c2 = c1 ∨ c3 = c1))))), .second, .unset, .unset] [(.long (bitsF c2 (tw (c0 = c2 ∨ c1 = c2 ∨ c3 = c2)))), (.long (((0 : Int64) ||| (bitsF c0 (tw (c1 = c0 ∨ c2 = c0 ∨ c3 = c0)))) ||| (bitsF c1 (tw (c0 = c1 ∨ c2 = c1 ∨ c3 = c1)))))]))
          refine Wk.lor X at_308 309 rfl ?_
          refine Wk.lstore X at_309 311 rfl #[.val (.int p0), .val (.int p1), .val (.int p2), .val (.int p3), .val (.int p4), .val (.int (4 : Int32)), .val (.int q0), .val (.int q1), .val (.int q2), .val (.int q3), .val (.ref r), .val (.int c0), .val (.int c1), .val (.int c2), .val (.int c3), .val (.int (1 : Int32)), .val (.int (1 : Int32)), .val (.int (1 : Int32)), .val (.long ((((0 : Int64) ||| (bitsF c0 (tw (c1 = c0 ∨ c2 = c0 ∨ c3 = c0)))) ||| (bitsF c1 (tw (c0 = c1 ∨ c2 = c1 ∨ c3 = c1)))) ||| (bitsF c2 (tw (c0 = c2 ∨ c1 = c2 ∨ c3 = c2))))), .second, .unset, .unset] rfl ?_
          refine Wk.iload X at_311 313 rfl rfl ?_
          refine Wk.iconst X at_313 314 rfl (3 : Int32) rfl ?_
          refine Wk.icmpF X at_314 317 rfl (show (3 : Int32) < (4 : Int32) from (by decide)) ?_
          refine Wk.lload X at_317 319 rfl rfl ?_
          refine Wk.iload X at_319 321 rfl rfl ?_
          refine Wk.join (T.setTop (mkF m 347 #[.val (.int p0), .val (.int p1), .val (.int p2), .val (.int p3), .val (.int p4), .val (.int (4 : Int32)), .val (.int q0), .val (.int q1), .val (.int q2), .val (.int q3), .val (.ref r), .val (.int c0), .val (.int c1), .val (.int c2), .val (.int c3), .val (.int (1 : Int32)), .val (.int (1 : Int32)), .val (.int (1 : Int32)), .val (.long ((((0 : Int64) ||| (bitsF c0 (tw (c1 = c0 ∨ c2 = c0 ∨ c3 = c0)))) ||| (bitsF c1 (tw (c0 = c1 ∨ c2 = c1 ∨ c3 = c1)))) ||| (bitsF c2 (tw (c0 = c2 ∨ c1 = c2 ∨ c3 = c2))))), .second, .unset, .unset] [(.int (tw (c0 = c3 ∨ c1 = c3 ∨ c2 = c3))), (.int c3), (.long ((((0 : Int64) ||| (bitsF c0 (tw (c1 = c0 ∨ c2 = c0 ∨ c3 = c0)))) ||| (bitsF c1 (tw (c0 = c1 ∨ c2 = c1 ∨ c3 = c1)))) ||| (bitsF c2 (tw (c0 = c2 ∨ c1 = c2 ∨ c3 = c2)))))])) True ?_ ?_
          · intro _
            refine Wk.callS X (t11 hw) (t12 hw) (t3 hw) (t13 hw) (con_bits l Z a0 hw [] _ n0 c3 (tw (c0 = c3 ∨ c1 = c3 ∨ c2 = c3))) (by decide) pd2 [(.int c3), (.int (tw (c0 = c3 ∨ c1 = c3 ∨ c2 = c3)))] [(.long ((((0 : Int64) ||| (bitsF c0 (tw (c1 = c0 ∨ c2 = c0 ∨ c3 = c0)))) ||| (bitsF c1 (tw (c0 = c1 ∨ c2 = c1 ∨ c3 = c1)))) ||| (bitsF c2 (tw (c0 = c2 ∨ c1 = c2 ∨ c3 = c2)))))] rfl rfl rfl rfl 2 (Nat.le_of_eq rfl) (by decide) (by decide) (by decide) (by decide) 1 4 rfl rfl at_347 350 rfl ?_
            rintro _ T _ X ⟨rfl, rfl⟩
            show Wk p.tables e below _ (T.setTop (mkF m 350 #[.val (.int p0), .val (.int p1), .val (.int p2), .val (.int p3), .val (.int p4), .val (.int (4 : Int32)), .val (.int q0), .val (.int q1), .val (.int q2), .val (.int q3), .val (.ref r), .val (.int c0), .val (.int c1), .val (.int c2), .val (.int c3), .val (.int (1 : Int32)), .val (.int (1 : Int32)), .val (.int (1 : Int32)), .val (.long ((((0 : Int64) ||| (bitsF c0 (tw (c1 = c0 ∨ c2 = c0 ∨ c3 = c0)))) ||| (bitsF c1 (tw (c0 = c1 ∨ c2 = c1 ∨ c3 = c1)))) ||| (bitsF c2 (tw (c0 = c2 ∨ c1 = c2 ∨ c3 = c2))))), .second, .unset, .unset] [(.long (bitsF c3 (tw (c0 = c3 ∨ c1 = c3 ∨ c2 = c3)))), (.long ((((0 : Int64) ||| (bitsF c0 (tw (c1 = c0 ∨ c2 = c0 ∨ c3 = c0)))) ||| (bitsF c1 (tw (c0 = c1 ∨ c2 = c1 ∨ c3 = c1)))) ||| (bitsF c2 (tw (c0 = c2 ∨ c1 = c2 ∨ c3 = c2)))))]))
            refine Wk.lor X at_350 351 rfl ?_
            refine Wk.lstore X at_351 353 rfl #[.val (.int p0), .val (.int p1), .val (.int p2), .val (.int p3), .val (.int p4), .val (.int (4 : Int32)), .val (.int q0), .val (.int q1), .val (.int q2), .val (.int q3), .val (.ref r), .val (.int c0), .val (.int c1), .val (.int c2), .val (.int c3), .val (.int (1 : Int32)), .val (.int (1 : Int32)), .val (.int (1 : Int32)), .val (.long (((((0 : Int64) ||| (bitsF c0 (tw (c1 = c0 ∨ c2 = c0 ∨ c3 = c0)))) ||| (bitsF c1 (tw (c0 = c1 ∨ c2 = c1 ∨ c3 = c1)))) ||| (bitsF c2 (tw (c0 = c2 ∨ c1 = c2 ∨ c3 = c2)))) ||| (bitsF c3 (tw (c0 = c3 ∨ c1 = c3 ∨ c2 = c3))))), .second, .unset, .unset] rfl ?_
            refine Wk.aload X at_353 355 rfl rfl rfl ?_
            refine Wk.callS X (t7 hw) (t8 hw) (t9 hw) (t10 hw) (con_profile l Z a0 hw [] _ n0 r [q0, q1, q2, q3] R4) (by decide) pd1 [(.ref r)] [] rfl rfl rfl rfl 0 (Nat.le_of_eq rfl) (by decide) (by decide) (by decide) (by decide) 1 4 rfl rfl at_355 358 rfl ?_
            rintro _ T _ X ⟨rfl, rfl⟩
            show Wk p.tables e below _ (T.setTop (mkF m 358 #[.val (.int p0), .val (.int p1), .val (.int p2), .val (.int p3), .val (.int p4), .val (.int (4 : Int32)), .val (.int q0), .val (.int q1), .val (.int q2), .val (.int q3), .val (.ref r), .val (.int c0), .val (.int c1), .val (.int c2), .val (.int c3), .val (.int (1 : Int32)), .val (.int (1 : Int32)), .val (.int (1 : Int32)), .val (.long (((((0 : Int64) ||| (bitsF c0 (tw (c1 = c0 ∨ c2 = c0 ∨ c3 = c0)))) ||| (bitsF c1 (tw (c0 = c1 ∨ c2 = c1 ∨ c3 = c1)))) ||| (bitsF c2 (tw (c0 = c2 ∨ c1 = c2 ∨ c3 = c2)))) ||| (bitsF c3 (tw (c0 = c3 ∨ c1 = c3 ∨ c2 = c3))))), .second, .unset, .unset] [(.long (prof [q0, q1, q2, q3] 0))]))
            have hE : prof [q0, q1, q2, q3] 0 = (((((0 : Int64) ||| (bitsF c0 (tw (c1 = c0 ∨ c2 = c0 ∨ c3 = c0)))) ||| (bitsF c1 (tw (c0 = c1 ∨ c2 = c1 ∨ c3 = c1)))) ||| (bitsF c2 (tw (c0 = c2 ∨ c1 = c2 ∨ c3 = c2)))) ||| (bitsF c3 (tw (c0 = c3 ∨ c1 = c3 ∨ c2 = c3)))) := by
              show stp (stp (stp (stp 0 q0) q1) q2) q3 = _
              rw [tq0, tq1, tq2, tq3]
              exact own_law4 hc0 hc1 hc2 hc3
            refine Wk.lstore X at_358 360 rfl #[.val (.int p0), .val (.int p1), .val (.int p2), .val (.int p3), .val (.int p4), .val (.int (4 : Int32)), .val (.int q0), .val (.int q1), .val (.int q2), .val (.int q3), .val (.ref r), .val (.int c0), .val (.int c1), .val (.int c2), .val (.int c3), .val (.int (1 : Int32)), .val (.int (1 : Int32)), .val (.int (1 : Int32)), .val (.long (((((0 : Int64) ||| (bitsF c0 (tw (c1 = c0 ∨ c2 = c0 ∨ c3 = c0)))) ||| (bitsF c1 (tw (c0 = c1 ∨ c2 = c1 ∨ c3 = c1)))) ||| (bitsF c2 (tw (c0 = c2 ∨ c1 = c2 ∨ c3 = c2)))) ||| (bitsF c3 (tw (c0 = c3 ∨ c1 = c3 ∨ c2 = c3))))), .second, .val (.long (prof [q0, q1, q2, q3] 0)), .second] rfl ?_
            refine Wk.lload X at_360 362 rfl rfl ?_
            refine Wk.lload X at_362 364 rfl rfl ?_
            refine Wk.lcmp X at_364 365 rfl ?_
            refine Wk.ifcF X at_365 368 rfl (show (if (prof [q0, q1, q2, q3] 0) > (((((0 : Int64) ||| (bitsF c0 (tw (c1 = c0 ∨ c2 = c0 ∨ c3 = c0)))) ||| (bitsF c1 (tw (c0 = c1 ∨ c2 = c1 ∨ c3 = c1)))) ||| (bitsF c2 (tw (c0 = c2 ∨ c1 = c2 ∨ c3 = c2)))) ||| (bitsF c3 (tw (c0 = c3 ∨ c1 = c3 ∨ c2 = c3)))) then 1 else if (prof [q0, q1, q2, q3] 0) = (((((0 : Int64) ||| (bitsF c0 (tw (c1 = c0 ∨ c2 = c0 ∨ c3 = c0)))) ||| (bitsF c1 (tw (c0 = c1 ∨ c2 = c1 ∨ c3 = c1)))) ||| (bitsF c2 (tw (c0 = c2 ∨ c1 = c2 ∨ c3 = c2)))) ||| (bitsF c3 (tw (c0 = c3 ∨ c1 = c3 ∨ c2 = c3)))) then 0 else -1) = (0 : Int32) from (by rw [hE, if_neg Int64.lt_irrefl, if_pos rfl])) ?_
            refine Wk.iconst X at_368 369 rfl (1 : Int32) rfl ?_
            refine Wk.goto X at_369 373 (by decide) ?_
            exact Wk.zreturn X at_373 (by decide) (by decide) (Or.inr rfl) rfl
          · intro J
            refine Wk.iload X at_321 323 rfl rfl ?_
            refine Wk.iload X at_323 325 rfl rfl ?_
            refine Wk.icmp X at_325 342 328 (by decide) rfl ?_ ?_
            · intro e3_0; change c0 = c3 at e3_0
              refine Wk.iconst X at_342 343 rfl (1 : Int32) rfl ?_
              refine Wk.goto X at_343 347 (by decide) ?_
              rw [show (tw (c0 = c3 ∨ c1 = c3 ∨ c2 = c3)) = (1 : Int32) from by simp [tw, e3_0]] at J
              exact J trivial
            · intro e3_0; change ¬ c0 = c3 at e3_0
              refine Wk.iload X at_328 330 rfl rfl ?_
              refine Wk.iload X at_330 332 rfl rfl ?_
              refine Wk.icmp X at_332 342 335 (by decide) rfl ?_ ?_
              · intro e3_1; change c1 = c3 at e3_1
                refine Wk.iconst X at_342 343 rfl (1 : Int32) rfl ?_
                refine Wk.goto X at_343 347 (by decide) ?_
                rw [show (tw (c0 = c3 ∨ c1 = c3 ∨ c2 = c3)) = (1 : Int32) from by simp [tw, e3_0, e3_1]] at J
                exact J trivial
              · intro e3_1; change ¬ c1 = c3 at e3_1
                refine Wk.iload X at_335 337 rfl rfl ?_
                refine Wk.iload X at_337 339 rfl rfl ?_
                refine Wk.icmp X at_339 346 342 (by decide) rfl ?_ ?_
                · intro e3_2; change ¬ c2 = c3 at e3_2
                  refine Wk.iconst X at_346 347 rfl (0 : Int32) rfl ?_
                  rw [show (tw (c0 = c3 ∨ c1 = c3 ∨ c2 = c3)) = (0 : Int32) from by simp [tw, e3_0, e3_1, e3_2]] at J
                  exact J trivial
                · intro e3_2; change c2 = c3 at e3_2
                  refine Wk.iconst X at_342 343 rfl (1 : Int32) rfl ?_
                  refine Wk.goto X at_343 347 (by decide) ?_
                  rw [show (tw (c0 = c3 ∨ c1 = c3 ∨ c2 = c3)) = (1 : Int32) from by simp [tw, e3_0, e3_1, e3_2]] at J
                  exact J trivial
        · intro J
          refine Wk.iload X at_274 276 rfl rfl ?_
          refine Wk.iload X at_276 278 rfl rfl ?_
          refine Wk.icmp X at_278 300 281 (by decide) rfl ?_ ?_
          · intro e2_0; change c0 = c2 at e2_0
            refine Wk.iconst X at_300 301 rfl (1 : Int32) rfl ?_
            refine Wk.goto X at_301 305 (by decide) ?_
            rw [show (tw (c0 = c2 ∨ c1 = c2 ∨ c3 = c2)) = (1 : Int32) from by simp [tw, e2_0]] at J
            exact J trivial
          · intro e2_0; change ¬ c0 = c2 at e2_0
            refine Wk.iload X at_281 283 rfl rfl ?_
            refine Wk.iload X at_283 285 rfl rfl ?_
            refine Wk.icmp X at_285 300 288 (by decide) rfl ?_ ?_
            · intro e2_1; change c1 = c2 at e2_1
              refine Wk.iconst X at_300 301 rfl (1 : Int32) rfl ?_
              refine Wk.goto X at_301 305 (by decide) ?_
              rw [show (tw (c0 = c2 ∨ c1 = c2 ∨ c3 = c2)) = (1 : Int32) from by simp [tw, e2_0, e2_1]] at J
              exact J trivial
            · intro e2_1; change ¬ c1 = c2 at e2_1
              refine Wk.iload X at_288 290 rfl rfl ?_
              refine Wk.ifcF X at_290 293 rfl (show ¬ (1 : Int32) = (0 : Int32) from (by decide)) ?_
              refine Wk.iload X at_293 295 rfl rfl ?_
              refine Wk.iload X at_295 297 rfl rfl ?_
              refine Wk.icmp X at_297 304 300 (by decide) rfl ?_ ?_
              · intro e2_2; change ¬ c3 = c2 at e2_2
                refine Wk.iconst X at_304 305 rfl (0 : Int32) rfl ?_
                rw [show (tw (c0 = c2 ∨ c1 = c2 ∨ c3 = c2)) = (0 : Int32) from by simp [tw, e2_0, e2_1, e2_2]] at J
                exact J trivial
              · intro e2_2; change c3 = c2 at e2_2
                refine Wk.iconst X at_300 301 rfl (1 : Int32) rfl ?_
                refine Wk.goto X at_301 305 (by decide) ?_
                rw [show (tw (c0 = c2 ∨ c1 = c2 ∨ c3 = c2)) = (1 : Int32) from by simp [tw, e2_0, e2_1, e2_2]] at J
                exact J trivial
      · intro J
        refine Wk.iload X at_222 224 rfl rfl ?_
        refine Wk.iload X at_224 226 rfl rfl ?_
        refine Wk.icmp X at_226 253 229 (by decide) rfl ?_ ?_
        · intro e1_0; change c0 = c1 at e1_0
          refine Wk.iconst X at_253 254 rfl (1 : Int32) rfl ?_
          refine Wk.goto X at_254 258 (by decide) ?_
          rw [show (tw (c0 = c1 ∨ c2 = c1 ∨ c3 = c1)) = (1 : Int32) from by simp [tw, e1_0]] at J
          exact J trivial
        · intro e1_0; change ¬ c0 = c1 at e1_0
          refine Wk.iload X at_229 231 rfl rfl ?_
          refine Wk.ifcF X at_231 234 rfl (show ¬ (1 : Int32) = (0 : Int32) from (by decide)) ?_
          refine Wk.iload X at_234 236 rfl rfl ?_
          refine Wk.iload X at_236 238 rfl rfl ?_
          refine Wk.icmp X at_238 253 241 (by decide) rfl ?_ ?_
          · intro e1_1; change c2 = c1 at e1_1
            refine Wk.iconst X at_253 254 rfl (1 : Int32) rfl ?_
            refine Wk.goto X at_254 258 (by decide) ?_
            rw [show (tw (c0 = c1 ∨ c2 = c1 ∨ c3 = c1)) = (1 : Int32) from by simp [tw, e1_0, e1_1]] at J
            exact J trivial
          · intro e1_1; change ¬ c2 = c1 at e1_1
            refine Wk.iload X at_241 243 rfl rfl ?_
            refine Wk.ifcF X at_243 246 rfl (show ¬ (1 : Int32) = (0 : Int32) from (by decide)) ?_
            refine Wk.iload X at_246 248 rfl rfl ?_
            refine Wk.iload X at_248 250 rfl rfl ?_
            refine Wk.icmp X at_250 257 253 (by decide) rfl ?_ ?_
            · intro e1_2; change ¬ c3 = c1 at e1_2
              refine Wk.iconst X at_257 258 rfl (0 : Int32) rfl ?_
              rw [show (tw (c0 = c1 ∨ c2 = c1 ∨ c3 = c1)) = (0 : Int32) from by simp [tw, e1_0, e1_1, e1_2]] at J
              exact J trivial
            · intro e1_2; change c3 = c1 at e1_2
              refine Wk.iconst X at_253 254 rfl (1 : Int32) rfl ?_
              refine Wk.goto X at_254 258 (by decide) ?_
              rw [show (tw (c0 = c1 ∨ c2 = c1 ∨ c3 = c1)) = (1 : Int32) from by simp [tw, e1_0, e1_1, e1_2]] at J
              exact J trivial
    · intro J
      refine Wk.iload X at_165 167 rfl rfl ?_
      refine Wk.ifcF X at_167 170 rfl (show ¬ (1 : Int32) = (0 : Int32) from (by decide)) ?_
      refine Wk.iload X at_170 172 rfl rfl ?_
      refine Wk.iload X at_172 174 rfl rfl ?_
      refine Wk.icmp X at_174 201 177 (by decide) rfl ?_ ?_
      · intro e0_0; change c1 = c0 at e0_0
        refine Wk.iconst X at_201 202 rfl (1 : Int32) rfl ?_
        refine Wk.goto X at_202 206 (by decide) ?_
        rw [show (tw (c1 = c0 ∨ c2 = c0 ∨ c3 = c0)) = (1 : Int32) from by simp [tw, e0_0]] at J
        exact J trivial
      · intro e0_0; change ¬ c1 = c0 at e0_0
        refine Wk.iload X at_177 179 rfl rfl ?_
        refine Wk.ifcF X at_179 182 rfl (show ¬ (1 : Int32) = (0 : Int32) from (by decide)) ?_
        refine Wk.iload X at_182 184 rfl rfl ?_
        refine Wk.iload X at_184 186 rfl rfl ?_
        refine Wk.icmp X at_186 201 189 (by decide) rfl ?_ ?_
        · intro e0_1; change c2 = c0 at e0_1
          refine Wk.iconst X at_201 202 rfl (1 : Int32) rfl ?_
          refine Wk.goto X at_202 206 (by decide) ?_
          rw [show (tw (c1 = c0 ∨ c2 = c0 ∨ c3 = c0)) = (1 : Int32) from by simp [tw, e0_0, e0_1]] at J
          exact J trivial
        · intro e0_1; change ¬ c2 = c0 at e0_1
          refine Wk.iload X at_189 191 rfl rfl ?_
          refine Wk.ifcF X at_191 194 rfl (show ¬ (1 : Int32) = (0 : Int32) from (by decide)) ?_
          refine Wk.iload X at_194 196 rfl rfl ?_
          refine Wk.iload X at_196 198 rfl rfl ?_
          refine Wk.icmp X at_198 205 201 (by decide) rfl ?_ ?_
          · intro e0_2; change ¬ c3 = c0 at e0_2
            refine Wk.iconst X at_205 206 rfl (0 : Int32) rfl ?_
            rw [show (tw (c1 = c0 ∨ c2 = c0 ∨ c3 = c0)) = (0 : Int32) from by simp [tw, e0_0, e0_1, e0_2]] at J
            exact J trivial
          · intro e0_2; change c3 = c0 at e0_2
            refine Wk.iconst X at_201 202 rfl (1 : Int32) rfl ?_
            refine Wk.goto X at_202 206 (by decide) ?_
            rw [show (tw (c1 = c0 ∨ c2 = c0 ∨ c3 = c0)) = (1 : Int32) from by simp [tw, e0_0, e0_1, e0_2]] at J
            exact J trivial
set_option maxRecDepth 65536 in
set_option maxHeartbeats 40000000 in
theorem comes_1 {Post : Tables → Env → Array Value → State → Outcome → State → Prop} (hpost : ∀ tb e args s v u, (limb_1_1.after args s (.returned v) u = true ∧ limb_1_2.after args s (.returned v) u = true ∧ True) → FrameEnd s (.returned v) u (Jvm.fieldLocs frame_1_writes args s ++ Jvm.arrayLocs frame_1_arrays args s ++ Jvm.staticLocs frame_1_statics s) 16 128 → Post tb e args s (.returned v) u) :
    ArmFor flags0 classFile x code maxLocals ret World_1 tables_1 room_1 Calls_1 rest_1 Pre_1 Post := by
  intro l hfl _ _ p e ha hc hk s m args below hf hA hF happ hP
  obtain ⟨hcalls, hrest, hpre⟩ := hP
  obtain ⟨-, -, -, hnamed, -, -, -, hat⟩ := (Spec.applies_iff hf).mp happ
  obtain ⟨hg, hn⟩ := and_e (Cond.before_iff.mp (show (Jvm.Cond.and given_1 narrow_1).before args s = true from hpre))
  obtain ⟨g0, r0⟩ := and_e hg
  obtain ⟨g1, r1⟩ := and_e r0
  obtain ⟨g2, r2⟩ := and_e r1
  obtain ⟨g3, r3⟩ := and_e r2
  obtain ⟨g4, r4⟩ := and_e r3
  have g5 := r4
  obtain ⟨w0, w1, w2, w3, w4, rfl⟩ : ∃ w0 w1 w2 w3 w4 : Value, args = #[w0, w1, w2, w3, w4] := by
    have hs : args.size = 5 := by simpa [Cond.value, given_1] using g0
    obtain ⟨L⟩ := args
    match L, hs with
    | [w0, w1, w2, w3, w4], _ => exact ⟨w0, w1, w2, w3, w4, rfl⟩
  have hw := fun d (hd : d ∈ tables_1) => atoms_spec (ws := Jvm.Cond.code x code maxLocals ret :: tables_1) hat d (List.mem_cons_of_mem _ hd)
  obtain ⟨i0, ei0⟩ := is_v g1
  obtain rfl : w0 = (.int i0) := Option.some.inj ei0
  obtain ⟨i1, ei1⟩ := is_v g2
  obtain rfl : w1 = (.int i1) := Option.some.inj ei1
  obtain ⟨i2, ei2⟩ := is_v g3
  obtain rfl : w2 = (.int i2) := Option.some.inj ei2
  obtain ⟨i3, ei3⟩ := is_v g4
  obtain rfl : w3 = (.int i3) := Option.some.inj ei3
  obtain ⟨i4, ei4⟩ := is_v g5
  obtain rfl : w4 = (.int i4) := Option.some.inj ei4
  obtain ⟨n, o, h1, h2, h3, _, L, rfl, ⟨rfl, N⟩, hq⟩ := con_law l s _ hw tables_1 s.heap s.heap.size i0 i1 i2 i3 i4 (Nat.le_refl _) p e ha hc hk s m _ below hf ((Spec.applies_iff_loose hf).mp happ).1 ⟨rfl, State.Warmed39.refl s, rfl⟩ trivial
  refine ⟨n, _, h1, h2, h3, hpost _ _ _ _ _ _ ⟨Cond.after_iff.mpr rfl, Cond.after_iff.mpr (eq_i res_at (Term.int_eval (1)) rfl), trivial⟩ ⟨hq.1, hq.2.1, (hq.2.2.sift fun y hy => Or.inr (N y hy)).mono (by decide) (by decide)⟩⟩
theorem main_1_1 : Claimed_1_1 := comes_1 fun _ _ _ _ _ _ h hF => ⟨h.1, hF⟩
theorem main_1_2 : Claimed_1_2 := comes_1 fun _ _ _ _ _ _ h hF => ⟨h.2.1, hF⟩
end Jvm.Pilot.@@N@@
namespace Jvm.Pilot.@@N@@
open Jvm Jvm.ClassFile Sem Op Lib Jvm.Free Jvm.Stand Jvm.Pilot.@@N@@.Jvm.D
/-! MADE BY PROGRAM (witnessworld.py) out of the Statement's table words and the real class files: 9 classes; the members and pool entries that the words name. The judged class is class 1, her method 3. -/
namespace start1
open Jvm.ClassFile
def u (s : String) : CpInfo := .utf8 (stringToUtf16 s)
/-- a pool by its gaps: so many unusable entries, then the entry; so many at the end -/
def gap : Nat → List CpInfo → List CpInfo
  | 0, r => r
  | n + 1, r => .unusable :: gap n r
def poolList (es : List (Nat × CpInfo)) (last : Nat) : List CpInfo := es.foldr (fun e r => gap e.1 (e.2 :: r)) (gap last [])
def pool (es : List (Nat × CpInfo)) (last : Nat) : Array CpInfo := ⟨poolList es last⟩
def fileOf (pool : Array CpInfo) (this : Nat) (attrs : Array Attribute := #[]) (ms : Array MethodInfo := #[]) (fl : Nat := 33) (sup : Nat := 0) (ifs : Array Nat := #[]) (fds : Array FieldInfo := #[]) : ClassFile where
  minorVersion := 0
  majorVersion := 65
  constantPool := pool
  accessFlags := fl
  thisClass := this
  superClass := sup
  interfaces := ifs
  fields := fds
  methods := ms
  attributes := attrs
def plain (name : String) (sup : Option ClassId) : Class where
  name := name
  kind := .ordinary
  loader := none
  accessFlags := 33
  super := sup
  interfaces := #[]
  cf := none
  fields := #[]
  methods := #[]
  instanceTypes := #[]
  staticTypes := #[]
  resolved := #[]
  callSites := []
  init := .initialized
  statics := none
  mirror := none

def pool0 : Array CpInfo := pool [(5, u "<init>"), (0, u "()V"), (1, .class_ 10), (1, u "java/lang/Object")] 113

def k0m0 : Method := { name := "<init>", desc := "()V", sig := { parameters := [], returnType := none }, accessFlags := 1, code := none }
/-- java/lang/Object -/
def k0 : Class := { plain "java/lang/Object" none with
  accessFlags := 33
  interfaces := #[]
  cf := some (fileOf pool0 8 #[] #[{ accessFlags := 1, nameIndex := 5, descriptorIndex := 6, attributes := #[] }] 33 0 #[] #[])
  fields := #[]
  methods := #[k0m0]
  instanceTypes := #[]
  staticTypes := #[]
  resolved := Array.replicate 124 none
  statics := none }

def pool1 : Array CpInfo := pool [(2, .class_ 4), (1, u "java/lang/Object"), (0, u "<init>"), (0, u "()V"), (0, .integer 2147483647), (0, .integer 1114112), (0, .methodref 10 11), (0, .class_ 12), (0, .nameAndType 13 14), (0, u "com/example/semblance/semblance/distance/EditDistanceProfilePinLaw"), (0, u "cp"), (0, u "(I)I"), (0, .methodref 10 16), (0, .nameAndType 17 18), (0, u "bits"), (0, u "(IZ)J"), (0, .methodref 20 21), (0, .class_ 22), (0, .nameAndType 23 24), (0, u "com/example/semblance/semblance/distance/EditDistance"), (0, u "profile"), (0, u "([I)J"), (3, u "law"), (0, u "(IIIII)Z")] 4

def k1m0 : Method := { name := "<init>", desc := "()V", sig := { parameters := [], returnType := none }, accessFlags := 2, code := none }
def k1c1 : Code := { maxStack := 2, maxLocals := 1, code := method_2_code, exceptionTable := #[], attributes := #[] }
def k1m1 : Method := { name := "cp", desc := "(I)I", sig := { parameters := [.int], returnType := some .int }, accessFlags := 10, code := some k1c1 }
def k1c2 : Code := { maxStack := 6, maxLocals := 4, code := method_3_code, exceptionTable := #[], attributes := #[] }
def k1m2 : Method := { name := "bits", desc := "(IZ)J", sig := { parameters := [.int, .boolean], returnType := some .long }, accessFlags := 10, code := some k1c2 }
def k1c3 : Code := { maxStack := 5, maxLocals := 22, code := code, exceptionTable := #[], attributes := #[] }
def k1m3 : Method := { name := "law", desc := "(IIIII)Z", sig := { parameters := [.int, .int, .int, .int, .int], returnType := some .boolean }, accessFlags := 9, code := some k1c3 }
/-- com/example/semblance/semblance/distance/EditDistanceProfilePinLaw -/
def k1 : Class := { plain "com/example/semblance/semblance/distance/EditDistanceProfilePinLaw" (some 0) with
  accessFlags := 49
  interfaces := #[]
  cf := some (fileOf pool1 10 #[] #[{ accessFlags := 2, nameIndex := 5, descriptorIndex := 6, attributes := #[] }, { accessFlags := 10, nameIndex := 13, descriptorIndex := 14, attributes := #[] }, { accessFlags := 10, nameIndex := 17, descriptorIndex := 18, attributes := #[] }, { accessFlags := 9, nameIndex := 28, descriptorIndex := 29, attributes := #[] }] 49 2 #[] #[])
  fields := #[]
  methods := #[k1m0, k1m1, k1m2, k1m3]
  instanceTypes := #[]
  staticTypes := #[]
  resolved := Array.replicate 34 none
  statics := none }

def pool2 : Array CpInfo := pool [(2, .class_ 4), (1, u "java/lang/Object"), (0, u "<init>"), (0, u "()V"), (1, .class_ 10), (1, u "com/example/semblance/semblance/distance/EditDistance"), (44, .class_ 57), (1, u "com/example/semblance/semblance/distance/EditDistance$Trimmed"), (29, u "profile"), (0, u "([I)J")] 23

def k2m0 : Method := { name := "<init>", desc := "()V", sig := { parameters := [], returnType := none }, accessFlags := 2, code := none }
def k2c1 : Code := { maxStack := 8, maxLocals := 9, code := prog_45_method_4_code, exceptionTable := #[], attributes := #[] }
def k2m1 : Method := { name := "profile", desc := "([I)J", sig := { parameters := [(.array .int)], returnType := some .long }, accessFlags := 9, code := some k2c1 }
/-- com/example/semblance/semblance/distance/EditDistance -/
def k2 : Class := { plain "com/example/semblance/semblance/distance/EditDistance" (some 0) with
  accessFlags := 49
  interfaces := #[]
  cf := some (fileOf pool2 8 #[.nestMembers #[55]] #[{ accessFlags := 2, nameIndex := 5, descriptorIndex := 6, attributes := #[] }, { accessFlags := 9, nameIndex := 87, descriptorIndex := 88, attributes := #[] }] 49 2 #[] #[])
  fields := #[]
  methods := #[k2m0, k2m1]
  instanceTypes := #[]
  staticTypes := #[]
  resolved := Array.replicate 112 none
  statics := none }

def pool3 : Array CpInfo := pool [(1, u "java/lang/Cloneable"), (0, .class_ 1), (0, u "java/lang/Object"), (0, .class_ 3)] 3

/-- java/lang/Cloneable -/
def k3 : Class := { plain "java/lang/Cloneable" (some 0) with
  accessFlags := 1537
  interfaces := #[]
  cf := some (fileOf pool3 2 #[] #[] 1537 4 #[] #[])
  fields := #[]
  methods := #[]
  instanceTypes := #[]
  staticTypes := #[]
  resolved := Array.replicate 8 none
  statics := none }

def pool4 : Array CpInfo := pool [(1, u "java/io/Serializable"), (0, .class_ 1), (0, u "java/lang/Object"), (0, .class_ 3)] 3

/-- java/io/Serializable -/
def k4 : Class := { plain "java/io/Serializable" (some 0) with
  accessFlags := 1537
  interfaces := #[]
  cf := some (fileOf pool4 2 #[] #[] 1537 4 #[] #[])
  fields := #[]
  methods := #[]
  instanceTypes := #[]
  staticTypes := #[]
  resolved := Array.replicate 8 none
  statics := none }

/-- the primitive byte -/
def k5 : Class := { plain "byte" none with kind := .primitive 'B', accessFlags := 0x411 }
/-- [B -/
def k6 : Class := { plain "[B" (some 0) with kind := .array 5 .byte, interfaces := #[3, 4], accessFlags := 1041 }

/-- the primitive int -/
def k7 : Class := { plain "int" none with kind := .primitive 'I', accessFlags := 0x411 }
/-- [I -/
def k8 : Class := { plain "[I" (some 0) with kind := .array 7 .int, interfaces := #[3, 4], accessFlags := 1041 }

def heap : Heap := #[]
def classes : Array Class := #[k0, k1, k2, k3, k4, k5, k6, k7, k8]
def interned : List (Array UInt16 × Addr) := []
def slotsUsed : Nat := 0
def theMethod : MethodId := ⟨1, 3⟩
def args0 : Array Value := #[.int 4, .int 3, .int 9, .int 3, .int 118]
def aboutOver (below : List Frame) : State where
  vm := { classes := classes, interned := interned.toArray }
  heap := heap
  slotsUsed := slotsUsed
  threads := #[{ frames := .invoking theMethod args0 :: below }]
def below0 : List Frame := [.native { method := ⟨0, 0⟩, args := #[] }]
def about1 : State := aboutOver below0
def p0 : Program := .bare "" "" ""
def e0 : Env := launch0.env 0 0 0
theorem w_frames : about1.frames = Frame.invoking theMethod args0 :: below0 := rfl
set_option maxRecDepth 65536 in
theorem w_args : argsFit about1.vm theMethod args0 = true := by decide +kernel
set_option maxRecDepth 65536 in
theorem w_heap : heapFits about1 = true := by decide +kernel
set_option maxRecDepth 65536 in
theorem w_runnable : about1.curStatus? = some .runnable := by decide +kernel
set_option maxRecDepth 65536 in
theorem w_alone : about1.alone = true := by decide +kernel
set_option maxRecDepth 65536 in
theorem w_named : about1.methodNamed? x = some theMethod := by decide +kernel
set_option maxRecDepth 65536 in
theorem w_hears : about1.hears theMethod below0 = true := by decide +kernel
set_option maxRecDepth 65536 in
theorem w_ripe : about1.ripe theMethod args0 below0 = true := by decide +kernel
theorem w_running : about1.status = .running := rfl
set_option maxRecDepth 65536 in
theorem w_room : about1.hasRoom e0.platform room_1 = true :=
  launch0.hasRoom_least _ room_1 (by decide +kernel) (by decide +kernel) (by decide +kernel) (by decide +kernel) (by decide +kernel) (by decide +kernel)
theorem allAtoms_all (ts : List Jvm.Cond) (a : Array Jvm.Value) (st : Jvm.State) : (allAtoms ts).before a st = ts.all (fun c => c.before a st) := by
  induction ts with
  | nil => rfl
  | cons c t ih =>
    show (Jvm.Cond.and c (allAtoms t)).before a st = _
    rw [Jvm.Cond.before_and, ih, List.all_cons]
def words1 : List Jvm.Cond := Jvm.Cond.code x code maxLocals ret :: tables_1
/-- a 'code' word, met by the world's own term for the bytes: nothing is compared byte by byte -/
theorem code_word {y : MethodName} {bytes : ByteArray} {mx : Nat} {rt : Option FieldType} {a : Array Value} {s : State} {m : MethodId} {meth : Method} {c : Code} (h1 : s.methodNamed? y = some m) (h2 : s.vm.method? m = some meth) (h3 : meth.code = some c) (h4 : c.code = bytes)
    (h5 : (c.maxLocals == mx && c.exceptionTable.isEmpty && decide (c.maxStack ≤ mostOperands) && decide (meth.sig.returnType = rt) && !meth.locks && decide (parseMethodDescriptor y.desc = some meth.sig)) = true) : (Jvm.Cond.code y bytes mx rt).before a s = true := by
  simp only [Bool.and_eq_true, beq_iff_eq, Bool.not_eq_true', decide_eq_true_eq] at h5
  obtain ⟨⟨⟨⟨⟨g1, g2⟩, g3⟩, g4⟩, g5⟩, g6⟩ := h5
  simp [Cond.before, Cond.holds, Cond.value, h1, h2, h3, h4, g1, g2, g3, g4, g5, g6]
def isCode : Jvm.Cond → Bool
  | .code _ _ _ _ => true
  | _ => false
theorem all_split {L : List Jvm.Cond} {P : Jvm.Cond → Bool} (h1 : L.all (fun c => isCode c || P c) = true) (h2 : ∀ c ∈ L.filter isCode, P c = true) : L.all P = true := by
  refine List.all_eq_true.mpr fun c hc => ?_
  have h := List.all_eq_true.mp h1 c hc
  rcases Bool.eq_false_or_eq_true (isCode c) with hi | hi
  · exact h2 c (List.mem_filter.mpr ⟨hc, hi⟩)
  · simpa [hi] using h
set_option maxRecDepth 65536 in
theorem w_c0 : (Jvm.Cond.code x code maxLocals ret).before args0 about1 = true := code_word (m := ⟨1, 3⟩) (meth := k1m3) (c := k1c3) (by decide +kernel) rfl rfl rfl (by decide +kernel)
set_option maxRecDepth 65536 in
theorem w_c1 : (Jvm.Cond.code ({ cls := "com/example/semblance/semblance/distance/EditDistanceProfilePinLaw", name := "cp", desc := "(I)I" } : Jvm.MethodName) method_2_code (1 : Nat) (Option.some Jvm.ClassFile.FieldType.int)).before args0 about1 = true := code_word (m := ⟨1, 1⟩) (meth := k1m1) (c := k1c1) (by decide +kernel) rfl rfl rfl (by decide +kernel)
set_option maxRecDepth 65536 in
theorem w_c2 : (Jvm.Cond.code ({ cls := "com/example/semblance/semblance/distance/EditDistance", name := "profile", desc := "([I)J" } : Jvm.MethodName) prog_45_method_4_code (9 : Nat) (Option.some Jvm.ClassFile.FieldType.long)).before args0 about1 = true := code_word (m := ⟨2, 1⟩) (meth := k2m1) (c := k2c1) (by decide +kernel) rfl rfl rfl (by decide +kernel)
set_option maxRecDepth 65536 in
theorem w_c3 : (Jvm.Cond.code ({ cls := "com/example/semblance/semblance/distance/EditDistanceProfilePinLaw", name := "bits", desc := "(IZ)J" } : Jvm.MethodName) method_3_code (4 : Nat) (Option.some Jvm.ClassFile.FieldType.long)).before args0 about1 = true := code_word (m := ⟨1, 2⟩) (meth := k1m2) (c := k1c2) (by decide +kernel) rfl rfl rfl (by decide +kernel)
def codes1 : List Jvm.Cond := [Jvm.Cond.code x code maxLocals ret, Jvm.Cond.code ({ cls := "com/example/semblance/semblance/distance/EditDistanceProfilePinLaw", name := "cp", desc := "(I)I" } : Jvm.MethodName) method_2_code (1 : Nat) (Option.some Jvm.ClassFile.FieldType.int), Jvm.Cond.code ({ cls := "com/example/semblance/semblance/distance/EditDistance", name := "profile", desc := "([I)J" } : Jvm.MethodName) prog_45_method_4_code (9 : Nat) (Option.some Jvm.ClassFile.FieldType.long), Jvm.Cond.code ({ cls := "com/example/semblance/semblance/distance/EditDistanceProfilePinLaw", name := "bits", desc := "(IZ)J" } : Jvm.MethodName) method_3_code (4 : Nat) (Option.some Jvm.ClassFile.FieldType.long)]
set_option maxRecDepth 65536 in
theorem codes_eq : words1.filter isCode = codes1 := rfl
theorem w_codes : ∀ c ∈ words1.filter isCode, c.before args0 about1 = true := by
  rw [codes_eq]
  intro c hc
  simp only [codes1, List.mem_cons, List.not_mem_nil, or_false] at hc
  rcases hc with rfl | rfl | rfl | rfl
  · exact w_c0
  · exact w_c1
  · exact w_c2
  · exact w_c3
set_option maxRecDepth 65536 in
theorem w_t1 : words1.all (fun c => isCode c || c.before args0 about1) = true := by decide +kernel
theorem w_tables : (allAtoms (Jvm.Cond.code x code maxLocals ret :: tables_1)).before args0 about1 = true := by
  rw [allAtoms_all]
  show words1.all (fun c => c.before args0 about1) = true
  refine all_split ?_ w_codes
  rw [w_t1]
set_option maxRecDepth 65536 in
theorem w_case : (Jvm.Cond.and given_1 narrow_1).before args0 about1 = true := by decide +kernel
theorem w_applies : (headSpec (Jvm.Cond.code x code maxLocals ret :: tables_1) room_1).applies x e0.platform about1 = true :=
  (Spec.applies_iff w_frames).mpr ⟨w_running, w_runnable, w_alone, w_named, w_hears, w_ripe, w_room, w_tables⟩
theorem atStart : AtStart classFile x code maxLocals ret World_1 tables_1 room_1 Calls_1 rest_1 Pre_1 launch0 p0 e0 about1 theMethod args0 below0 :=
  ⟨lists_1, trivial, launch0.admits_env _ _ _, launch0.least_env, fairChoices_fair.cas, fairChoices_fair.clock, w_frames, w_args, w_heap, w_applies, trivial, trivial, w_case⟩
end start1
theorem witness_1 : WitnessClaimed_1 := ⟨start1.p0, start1.e0, start1.about1, start1.theMethod, start1.args0, start1.below0, start1.atStart⟩
end Jvm.Pilot.@@N@@
