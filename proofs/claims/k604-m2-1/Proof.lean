import JvmDerived
import JvmDerived.Pilot.@@N@@Statement
import JvmDerived.Pilot.@@N@@Code
set_option linter.unusedVariables false
set_option linter.unusedSimpArgs false
namespace Jvm.Pilot.@@N@@
namespace W
open Jvm Jvm.ClassFile Sem Op Lib Jvm.Free Jvm.Stand Jvm.LawKit Jvm.RoadKit Bundle
/-- from U the run comes to an end that says G -/
def Go (tb : Tables) (e : Env) (below : List Frame) (G : Outcome → State → Prop) (U : State) : Prop := ∃ s₂ o, Steps tb e below U s₂ ∧ s₂.status = .running ∧ Ended s₂ below o ∧ G o s₂
theorem Go.via {tb : Tables} {e : Env} {below : List Frame} {G : Outcome → State → Prop} {U V : State} (f : ∀ t, Steps tb e below V t → Steps tb e below U t) (k : Go tb e below G V) : Go tb e below G U := by
  obtain ⟨s₂, o, h1, h⟩ := k; exact ⟨s₂, o, f _ h1, h⟩
theorem Go.tr {tb : Tables} {e : Env} {below : List Frame} {G : Outcome → State → Prop} {U V : State} (f : Steps tb e below U V) (k : Go tb e below G V) : Go tb e below G U := by
  obtain ⟨s₂, o, h1, h⟩ := k; exact ⟨s₂, o, f.trans h1, h⟩
/-- what a comparison of two ints says -/
abbrev cv (cd : ClassFile.Cond) (a b : Int32) : Prop := match cd with
  | .eq => a = b
  | .ne => ¬ a = b
  | .lt => a < b
  | .ge => ¬ a < b
  | .gt => b < a
  | .le => ¬ b < a
theorem cvY {cd : ClassFile.Cond} {a b : Int32} (q : cv cd a b) : if_icmp.holds cd a b = true := by
  cases cd
  · exact (teq q).1
  · exact (feq q).2
  · exact (tlt q).1
  · exact (flt q).2.1
  · exact (tlt q).2.2.1
  · exact (flt q).2.2.2
theorem cvN {cd : ClassFile.Cond} {a b : Int32} (q : ¬ cv cd a b) : if_icmp.holds cd a b = false := by
  cases cd
  · exact (feq q).1
  · exact (teq (Decidable.byContradiction q)).2
  · exact (flt q).1
  · exact (tlt (Decidable.byContradiction q)).2.1
  · exact (flt q).2.2.1
  · exact (tlt (Decidable.byContradiction q)).2.2.2
theorem cvD (cd : ClassFile.Cond) (a b : Int32) : cv cd a b ∨ ¬ cv cd a b := Classical.em _
abbrev Q0 (p : Program) (T : State) (m : MethodId) (c : Code) (below : List Frame) (code : ByteArray) : Prop := At T m c below ∧ p.tables.exec = Jvm.exec ∧ c.code = code
theorem catR {v : Value} (h : v.isRef = true) : v.category = 1 := by cases v <;> first | rfl | cases h
theorem stR {ls ls2 : Array Slot} {k : Nat} {v : Value} {o : Slot} (hv : v.isRef = true) (hold : ls[k]? = some o) (ho : One o) (h2 : ls.setIfInBounds k (.val v) = ls2) : storeLocals ls k v = some ls2 := by
  rw [← h2]; exact Jvm.Free.XS.store1 hold ho (catR hv)
section Plain
variable {p : Program} {e : Env} {below : List Frame} {G : Outcome → State → Prop} {T : State} {m : MethodId} {c : Code} {code : ByteArray} {pc pc1 pc2 : Nat} {ls ls2 : Array Slot} {st : List Value}

theorem g_iloadN (q : Q0 p T m c below code) {k : Fin 4} {v : Int32} (hd : decode code pc = .ok (.iload_n k, 1)) (hl : ls[k.val]? = some (.val (.int v))) (hp : pc + 1 = pc1) (K : Go p.tables e below G (T.setTop (mkF m pc1 ls (.int v :: st)))) : Go p.tables e below G (T.setTop (mkF m pc ls st)) := by
  subst hp; exact Go.via (fun _ k => Jvm.Free.XS.iloadN q.1 q.2.1 rfl (hb q.2.2 hd) hl k) K
theorem g_aloadN (q : Q0 p T m c below code) {k : Fin 4} {v : Value} (hd : decode code pc = .ok (.aload_n k, 1)) (hl : ls[k.val]? = some (.val v)) (hv : v.isRef = true) (hp : pc + 1 = pc1) (K : Go p.tables e below G (T.setTop (mkF m pc1 ls (v :: st)))) : Go p.tables e below G (T.setTop (mkF m pc ls st)) := by
  subst hp; exact Go.via (fun _ k => Jvm.Free.XS.aloadN q.1 q.2.1 rfl (hb q.2.2 hd) hl hv k) K
theorem g_istoreN (q : Q0 p T m c below code) {k : Fin 4} {v : Int32} (hd : decode code pc = .ok (.istore_n k, 1)) (hl : storeLocals ls k.val (.int v) = some ls2) (hp : pc + 1 = pc1) (K : Go p.tables e below G (T.setTop (mkF m pc1 ls2 st))) : Go p.tables e below G (T.setTop (mkF m pc ls (.int v :: st))) := by
  subst hp; exact Go.via (fun _ k => Jvm.Free.XS.istoreN q.1 q.2.1 rfl (hb q.2.2 hd) rfl hl k) K
theorem g_astoreN (q : Q0 p T m c below code) {k : Fin 4} {v : Value} (hd : decode code pc = .ok (.astore_n k, 1)) (hv : v.isRef = true) (hl : storeLocals ls k.val v = some ls2) (hp : pc + 1 = pc1) (K : Go p.tables e below G (T.setTop (mkF m pc1 ls2 st))) : Go p.tables e below G (T.setTop (mkF m pc ls (v :: st))) := by
  subst hp; exact Go.via (fun _ k => Jvm.Free.XS.astoreN q.1 q.2.1 rfl (hb q.2.2 hd) rfl hv hl k) K
theorem g_lloadN (q : Q0 p T m c below code) {k : Fin 4} {v : Int64} (hd : decode code pc = .ok (.lload_n k, 1)) (hl : ls[k.val]? = some (.val (.long v))) (hp : pc + 1 = pc1) (K : Go p.tables e below G (T.setTop (mkF m pc1 ls (.long v :: st)))) : Go p.tables e below G (T.setTop (mkF m pc ls st)) := by
  subst hp; exact Go.via (fun _ k => Jvm.Free.XT.lloadN q.1 q.2.1 rfl (hb q.2.2 hd) hl k) K
theorem g_lstoreN (q : Q0 p T m c below code) {k : Fin 4} {v : Int64} (hd : decode code pc = .ok (.lstore_n k, 1)) (hl : storeLocals ls k.val (.long v) = some ls2) (hp : pc + 1 = pc1) (K : Go p.tables e below G (T.setTop (mkF m pc1 ls2 st))) : Go p.tables e below G (T.setTop (mkF m pc ls (.long v :: st))) := by
  subst hp; exact Go.via (fun _ k => Jvm.Free.XT.lstoreN q.1 q.2.1 rfl (hb q.2.2 hd) rfl hl k) K
theorem g_iload (q : Q0 p T m c below code) {k : Nat} {v : Int32} (hd : decode code pc = .ok (.iload k, 2)) (hl : ls[k]? = some (.val (.int v))) (hp : pc + 2 = pc1) (K : Go p.tables e below G (T.setTop (mkF m pc1 ls (.int v :: st)))) : Go p.tables e below G (T.setTop (mkF m pc ls st)) := by
  subst hp; exact Go.via (fun _ k => Jvm.Free.XS.iload q.1 q.2.1 rfl (hb q.2.2 hd) hl k) K
theorem g_aload (q : Q0 p T m c below code) {k : Nat} {v : Value} (hd : decode code pc = .ok (.aload k, 2)) (hl : ls[k]? = some (.val v)) (hv : v.isRef = true) (hp : pc + 2 = pc1) (K : Go p.tables e below G (T.setTop (mkF m pc1 ls (v :: st)))) : Go p.tables e below G (T.setTop (mkF m pc ls st)) := by
  subst hp; exact Go.via (fun _ k => Jvm.Free.XS.aload q.1 q.2.1 rfl (hb q.2.2 hd) hl hv k) K
theorem g_istore (q : Q0 p T m c below code) {k : Nat} {v : Int32} (hd : decode code pc = .ok (.istore k, 2)) (hl : storeLocals ls k (.int v) = some ls2) (hp : pc + 2 = pc1) (K : Go p.tables e below G (T.setTop (mkF m pc1 ls2 st))) : Go p.tables e below G (T.setTop (mkF m pc ls (.int v :: st))) := by
  subst hp; exact Go.via (fun _ k => Jvm.Free.XS.istore q.1 q.2.1 rfl (hb q.2.2 hd) rfl hl k) K
theorem g_astore (q : Q0 p T m c below code) {k : Nat} {v : Value} (hd : decode code pc = .ok (.astore k, 2)) (hv : v.isRef = true) (hl : storeLocals ls k v = some ls2) (hp : pc + 2 = pc1) (K : Go p.tables e below G (T.setTop (mkF m pc1 ls2 st))) : Go p.tables e below G (T.setTop (mkF m pc ls (v :: st))) := by
  subst hp; exact Go.via (fun _ k => Jvm.Free.XS.astore q.1 q.2.1 rfl (hb q.2.2 hd) rfl hv hl k) K
theorem g_lload (q : Q0 p T m c below code) {k : Nat} {v : Int64} (hd : decode code pc = .ok (.lload k, 2)) (hl : ls[k]? = some (.val (.long v))) (hp : pc + 2 = pc1) (K : Go p.tables e below G (T.setTop (mkF m pc1 ls (.long v :: st)))) : Go p.tables e below G (T.setTop (mkF m pc ls st)) := by
  subst hp; exact Go.via (fun _ k => Jvm.Free.XT.lload q.1 q.2.1 rfl (hb q.2.2 hd) hl k) K
theorem g_lstore (q : Q0 p T m c below code) {k : Nat} {v : Int64} (hd : decode code pc = .ok (.lstore k, 2)) (hl : storeLocals ls k (.long v) = some ls2) (hp : pc + 2 = pc1) (K : Go p.tables e below G (T.setTop (mkF m pc1 ls2 st))) : Go p.tables e below G (T.setTop (mkF m pc ls (.long v :: st))) := by
  subst hp; exact Go.via (fun _ k => Jvm.Free.XT.lstore q.1 q.2.1 rfl (hb q.2.2 hd) rfl hl k) K
theorem g_iconst (q : Q0 p T m c below code) {i : Int} {v : Int32} (hd : decode code pc = .ok (.iconst i, 1)) (hv : Int32.ofInt i = v) (hp : pc + 1 = pc1) (K : Go p.tables e below G (T.setTop (mkF m pc1 ls (.int v :: st)))) : Go p.tables e below G (T.setTop (mkF m pc ls st)) := by
  subst hp; exact Go.via (fun _ k => Jvm.Free.XS.iconst q.1 q.2.1 rfl (hb q.2.2 hd) (hv ▸ k)) K
theorem g_bipush (q : Q0 p T m c below code) {i : Int} {v : Int32} (hd : decode code pc = .ok (.bipush i, 2)) (hv : (Int8.ofInt i).toInt32 = v) (hp : pc + 2 = pc1) (K : Go p.tables e below G (T.setTop (mkF m pc1 ls (.int v :: st)))) : Go p.tables e below G (T.setTop (mkF m pc ls st)) := by
  subst hp; exact Go.via (fun _ k => Jvm.Free.XS.bipush q.1 q.2.1 rfl (hb q.2.2 hd) (hv ▸ k)) K
theorem g_sipush (q : Q0 p T m c below code) {i : Int} {v : Int32} (hd : decode code pc = .ok (.sipush i, 3)) (hv : (Int16.ofInt i).toInt32 = v) (hp : pc + 3 = pc1) (K : Go p.tables e below G (T.setTop (mkF m pc1 ls (.int v :: st)))) : Go p.tables e below G (T.setTop (mkF m pc ls st)) := by
  subst hp; exact Go.via (fun _ k => Jvm.Free.XS.sipush q.1 q.2.1 rfl (hb q.2.2 hd) (hv ▸ k)) K
theorem g_null (q : Q0 p T m c below code)  (hd : decode code pc = .ok (.aconst_null, 1))  (hp : pc + 1 = pc1) (K : Go p.tables e below G (T.setTop (mkF m pc1 ls (.null :: st)))) : Go p.tables e below G (T.setTop (mkF m pc ls st)) := by
  subst hp; exact Go.via (fun _ k => Jvm.Free.XS.aconstNull q.1 q.2.1 rfl (hb q.2.2 hd) k) K
theorem g_iadd (q : Q0 p T m c below code) {x y : Int32} (hd : decode code pc = .ok (.iadd, 1))  (hp : pc + 1 = pc1) (K : Go p.tables e below G (T.setTop (mkF m pc1 ls (.int (x + y) :: st)))) : Go p.tables e below G (T.setTop (mkF m pc ls (.int y :: .int x :: st))) := by
  subst hp; exact Go.via (fun _ k => Jvm.Free.XS.iadd q.1 q.2.1 rfl (hb q.2.2 hd) rfl k) K
theorem g_isub (q : Q0 p T m c below code) {x y : Int32} (hd : decode code pc = .ok (.isub, 1))  (hp : pc + 1 = pc1) (K : Go p.tables e below G (T.setTop (mkF m pc1 ls (.int (x - y) :: st)))) : Go p.tables e below G (T.setTop (mkF m pc ls (.int y :: .int x :: st))) := by
  subst hp; exact Go.via (fun _ k => Jvm.Free.XS.isub q.1 q.2.1 rfl (hb q.2.2 hd) rfl k) K
theorem g_iand (q : Q0 p T m c below code) {x y : Int32} (hd : decode code pc = .ok (.iand, 1))  (hp : pc + 1 = pc1) (K : Go p.tables e below G (T.setTop (mkF m pc1 ls (.int (x &&& y) :: st)))) : Go p.tables e below G (T.setTop (mkF m pc ls (.int y :: .int x :: st))) := by
  subst hp; exact Go.via (fun _ k => Jvm.Free.XS.iand q.1 q.2.1 rfl (hb q.2.2 hd) rfl k) K
theorem g_imul (q : Q0 p T m c below code) {x y : Int32} (hd : decode code pc = .ok (.imul, 1))  (hp : pc + 1 = pc1) (K : Go p.tables e below G (T.setTop (mkF m pc1 ls (.int (x * y) :: st)))) : Go p.tables e below G (T.setTop (mkF m pc ls (.int y :: .int x :: st))) := by
  subst hp; exact Go.via (fun _ k => Jvm.Free.XS.imul q.1 q.2.1 rfl (hb q.2.2 hd) rfl k) K
theorem g_irem (q : Q0 p T m c below code) {x y : Int32} (hd : decode code pc = .ok (.irem, 1)) (hy : y ≠ 0) (hp : pc + 1 = pc1) (K : Go p.tables e below G (T.setTop (mkF m pc1 ls (.int (x - (x / y) * y) :: st)))) : Go p.tables e below G (T.setTop (mkF m pc ls (.int y :: .int x :: st))) := by
  subst hp; exact Go.via (fun _ k => Jvm.Free.XS.irem q.1 q.2.1 rfl (hb q.2.2 hd) rfl hy k) K
theorem g_idiv (q : Q0 p T m c below code) {x y : Int32} (hd : decode code pc = .ok (.idiv, 1)) (hy : y ≠ 0) (hp : pc + 1 = pc1) (K : Go p.tables e below G (T.setTop (mkF m pc1 ls (.int (x / y) :: st)))) : Go p.tables e below G (T.setTop (mkF m pc ls (.int y :: .int x :: st))) := by
  subst hp; exact Go.via (fun _ k => Jvm.Free.XS.idiv q.1 q.2.1 rfl (hb q.2.2 hd) rfl hy k) K
theorem g_ineg (q : Q0 p T m c below code) {x : Int32} (hd : decode code pc = .ok (.ineg, 1))  (hp : pc + 1 = pc1) (K : Go p.tables e below G (T.setTop (mkF m pc1 ls (.int (-x) :: st)))) : Go p.tables e below G (T.setTop (mkF m pc ls (.int x :: st))) := by
  subst hp; exact Go.via (fun _ k => Jvm.Free.XS.ineg q.1 q.2.1 rfl (hb q.2.2 hd) rfl k) K
theorem g_ior (q : Q0 p T m c below code) {x y : Int32} (hd : decode code pc = .ok (.ior, 1))  (hp : pc + 1 = pc1) (K : Go p.tables e below G (T.setTop (mkF m pc1 ls (.int (x ||| y) :: st)))) : Go p.tables e below G (T.setTop (mkF m pc ls (.int y :: .int x :: st))) := by
  subst hp; exact Go.via (fun _ k => Jvm.Free.XT.ior q.1 q.2.1 rfl (hb q.2.2 hd) rfl k) K
theorem g_ixor (q : Q0 p T m c below code) {x y : Int32} (hd : decode code pc = .ok (.ixor, 1))  (hp : pc + 1 = pc1) (K : Go p.tables e below G (T.setTop (mkF m pc1 ls (.int (x ^^^ y) :: st)))) : Go p.tables e below G (T.setTop (mkF m pc ls (.int y :: .int x :: st))) := by
  subst hp; exact Go.via (fun _ k => Jvm.Free.XT.ixor q.1 q.2.1 rfl (hb q.2.2 hd) rfl k) K
theorem g_ishl (q : Q0 p T m c below code) {x y : Int32} (hd : decode code pc = .ok (.ishl, 1))  (hp : pc + 1 = pc1) (K : Go p.tables e below G (T.setTop (mkF m pc1 ls (.int (x <<< (y &&& 31)) :: st)))) : Go p.tables e below G (T.setTop (mkF m pc ls (.int y :: .int x :: st))) := by
  subst hp; exact Go.via (fun _ k => Jvm.Free.XT.ishl q.1 q.2.1 rfl (hb q.2.2 hd) rfl k) K
theorem g_ishr (q : Q0 p T m c below code) {x y : Int32} (hd : decode code pc = .ok (.ishr, 1))  (hp : pc + 1 = pc1) (K : Go p.tables e below G (T.setTop (mkF m pc1 ls (.int (x >>> (y &&& 31)) :: st)))) : Go p.tables e below G (T.setTop (mkF m pc ls (.int y :: .int x :: st))) := by
  subst hp; exact Go.via (fun _ k => Jvm.Free.XT.ishr q.1 q.2.1 rfl (hb q.2.2 hd) rfl k) K
theorem g_iushr (q : Q0 p T m c below code) {x y : Int32} (hd : decode code pc = .ok (.iushr, 1))  (hp : pc + 1 = pc1) (K : Go p.tables e below G (T.setTop (mkF m pc1 ls (.int (Jvm.Free.XT.ushr x y) :: st)))) : Go p.tables e below G (T.setTop (mkF m pc ls (.int y :: .int x :: st))) := by
  subst hp; exact Go.via (fun _ k => Jvm.Free.XT.iushr q.1 q.2.1 rfl (hb q.2.2 hd) rfl k) K
theorem g_i2b (q : Q0 p T m c below code) {x : Int32} (hd : decode code pc = .ok (.i2b, 1))  (hp : pc + 1 = pc1) (K : Go p.tables e below G (T.setTop (mkF m pc1 ls (.int (x.toInt8.toInt32) :: st)))) : Go p.tables e below G (T.setTop (mkF m pc ls (.int x :: st))) := by
  subst hp; exact Go.via (fun _ k => Jvm.Free.XT.i2b q.1 q.2.1 rfl (hb q.2.2 hd) rfl k) K
theorem g_i2c (q : Q0 p T m c below code) {x : Int32} (hd : decode code pc = .ok (.i2c, 1))  (hp : pc + 1 = pc1) (K : Go p.tables e below G (T.setTop (mkF m pc1 ls (.int (x.toUInt32.toUInt16.toUInt32.toInt32) :: st)))) : Go p.tables e below G (T.setTop (mkF m pc ls (.int x :: st))) := by
  subst hp; exact Go.via (fun _ k => Jvm.Free.XT.i2c q.1 q.2.1 rfl (hb q.2.2 hd) rfl k) K
theorem g_i2s (q : Q0 p T m c below code) {x : Int32} (hd : decode code pc = .ok (.i2s, 1))  (hp : pc + 1 = pc1) (K : Go p.tables e below G (T.setTop (mkF m pc1 ls (.int (x.toInt16.toInt32) :: st)))) : Go p.tables e below G (T.setTop (mkF m pc ls (.int x :: st))) := by
  subst hp; exact Go.via (fun _ k => Jvm.Free.XT.i2s q.1 q.2.1 rfl (hb q.2.2 hd) rfl k) K
theorem g_i2l (q : Q0 p T m c below code) {x : Int32} (hd : decode code pc = .ok (.i2l, 1))  (hp : pc + 1 = pc1) (K : Go p.tables e below G (T.setTop (mkF m pc1 ls (.long x.toInt64 :: st)))) : Go p.tables e below G (T.setTop (mkF m pc ls (.int x :: st))) := by
  subst hp; exact Go.via (fun _ k => Jvm.Free.XT.i2l q.1 q.2.1 rfl (hb q.2.2 hd) rfl k) K
theorem g_l2i (q : Q0 p T m c below code) {x : Int64} (hd : decode code pc = .ok (.l2i, 1))  (hp : pc + 1 = pc1) (K : Go p.tables e below G (T.setTop (mkF m pc1 ls (.int x.toInt32 :: st)))) : Go p.tables e below G (T.setTop (mkF m pc ls (.long x :: st))) := by
  subst hp; exact Go.via (fun _ k => Jvm.Free.XT.l2i q.1 q.2.1 rfl (hb q.2.2 hd) rfl k) K
theorem g_ladd (q : Q0 p T m c below code) {x y : Int64} (hd : decode code pc = .ok (.ladd, 1))  (hp : pc + 1 = pc1) (K : Go p.tables e below G (T.setTop (mkF m pc1 ls (.long (x + y) :: st)))) : Go p.tables e below G (T.setTop (mkF m pc ls (.long y :: .long x :: st))) := by
  subst hp; exact Go.via (fun _ k => Jvm.Free.XT.ladd q.1 q.2.1 rfl (hb q.2.2 hd) rfl k) K
theorem g_lsub (q : Q0 p T m c below code) {x y : Int64} (hd : decode code pc = .ok (.lsub, 1))  (hp : pc + 1 = pc1) (K : Go p.tables e below G (T.setTop (mkF m pc1 ls (.long (x - y) :: st)))) : Go p.tables e below G (T.setTop (mkF m pc ls (.long y :: .long x :: st))) := by
  subst hp; exact Go.via (fun _ k => Jvm.Free.XT.lsub q.1 q.2.1 rfl (hb q.2.2 hd) rfl k) K
theorem g_lmul (q : Q0 p T m c below code) {x y : Int64} (hd : decode code pc = .ok (.lmul, 1))  (hp : pc + 1 = pc1) (K : Go p.tables e below G (T.setTop (mkF m pc1 ls (.long (x * y) :: st)))) : Go p.tables e below G (T.setTop (mkF m pc ls (.long y :: .long x :: st))) := by
  subst hp; exact Go.via (fun _ k => Jvm.Free.XT.lmul q.1 q.2.1 rfl (hb q.2.2 hd) rfl k) K
theorem g_land (q : Q0 p T m c below code) {x y : Int64} (hd : decode code pc = .ok (.land, 1))  (hp : pc + 1 = pc1) (K : Go p.tables e below G (T.setTop (mkF m pc1 ls (.long (x &&& y) :: st)))) : Go p.tables e below G (T.setTop (mkF m pc ls (.long y :: .long x :: st))) := by
  subst hp; exact Go.via (fun _ k => Jvm.Free.XT.land q.1 q.2.1 rfl (hb q.2.2 hd) rfl k) K
theorem g_lor (q : Q0 p T m c below code) {x y : Int64} (hd : decode code pc = .ok (.lor, 1))  (hp : pc + 1 = pc1) (K : Go p.tables e below G (T.setTop (mkF m pc1 ls (.long (x ||| y) :: st)))) : Go p.tables e below G (T.setTop (mkF m pc ls (.long y :: .long x :: st))) := by
  subst hp; exact Go.via (fun _ k => Jvm.Free.XT.lor q.1 q.2.1 rfl (hb q.2.2 hd) rfl k) K
theorem g_lshl (q : Q0 p T m c below code) {x : Int64} {y : Int32} (hd : decode code pc = .ok (.lshl, 1))  (hp : pc + 1 = pc1) (K : Go p.tables e below G (T.setTop (mkF m pc1 ls (.long (x <<< (y.toInt64 &&& 63)) :: st)))) : Go p.tables e below G (T.setTop (mkF m pc ls (.int y :: .long x :: st))) := by
  subst hp; exact Go.via (fun _ k => Jvm.Free.XT.lshl q.1 q.2.1 rfl (hb q.2.2 hd) rfl k) K
theorem g_lshr (q : Q0 p T m c below code) {x : Int64} {y : Int32} (hd : decode code pc = .ok (.lshr, 1))  (hp : pc + 1 = pc1) (K : Go p.tables e below G (T.setTop (mkF m pc1 ls (.long (x >>> (y.toInt64 &&& 63)) :: st)))) : Go p.tables e below G (T.setTop (mkF m pc ls (.int y :: .long x :: st))) := by
  subst hp; exact Go.via (fun _ k => Jvm.Free.XT.lshr q.1 q.2.1 rfl (hb q.2.2 hd) rfl k) K
theorem g_lushr (q : Q0 p T m c below code) {x : Int64} {y : Int32} (hd : decode code pc = .ok (.lushr, 1))  (hp : pc + 1 = pc1) (K : Go p.tables e below G (T.setTop (mkF m pc1 ls (.long (Jvm.Free.XT.ushrL x y) :: st)))) : Go p.tables e below G (T.setTop (mkF m pc ls (.int y :: .long x :: st))) := by
  subst hp; exact Go.via (fun _ k => Jvm.Free.XT.lushr q.1 q.2.1 rfl (hb q.2.2 hd) rfl k) K
theorem g_lrem (q : Q0 p T m c below code) {x y : Int64} (hd : decode code pc = .ok (.lrem, 1)) (hy : y ≠ 0) (hp : pc + 1 = pc1) (K : Go p.tables e below G (T.setTop (mkF m pc1 ls (.long (x - (x / y) * y) :: st)))) : Go p.tables e below G (T.setTop (mkF m pc ls (.long y :: .long x :: st))) := by
  subst hp; exact Go.via (fun _ k => Jvm.Free.XT.lrem q.1 q.2.1 rfl (hb q.2.2 hd) rfl hy k) K
theorem g_lneg (q : Q0 p T m c below code) {x : Int64} (hd : decode code pc = .ok (.lneg, 1))  (hp : pc + 1 = pc1) (K : Go p.tables e below G (T.setTop (mkF m pc1 ls (.long (-x) :: st)))) : Go p.tables e below G (T.setTop (mkF m pc ls (.long x :: st))) := by
  subst hp; exact Go.via (fun _ k => Jvm.Free.XT.lneg q.1 q.2.1 rfl (hb q.2.2 hd) rfl k) K
theorem g_lcmp (q : Q0 p T m c below code) {x y : Int64} (hd : decode code pc = .ok (.lcmp, 1))  (hp : pc + 1 = pc1) (K : Go p.tables e below G (T.setTop (mkF m pc1 ls (.int (Jvm.Free.XT.cmpL x y) :: st)))) : Go p.tables e below G (T.setTop (mkF m pc ls (.long y :: .long x :: st))) := by
  subst hp; exact Go.via (fun _ k => Jvm.Free.XT.lcmp q.1 q.2.1 rfl (hb q.2.2 hd) rfl k) K
theorem g_lconst (q : Q0 p T m c below code) {i : Fin 2} {v : Int64} (hd : decode code pc = .ok (.lconst i, 1)) (hv : Int64.ofNat i.val = v) (hp : pc + 1 = pc1) (K : Go p.tables e below G (T.setTop (mkF m pc1 ls (.long v :: st)))) : Go p.tables e below G (T.setTop (mkF m pc ls st)) := by
  subst hp; exact Go.via (fun _ k => Jvm.Free.XT.lconst q.1 q.2.1 rfl (hb q.2.2 hd) (hv ▸ k)) K
theorem g_iinc (q : Q0 p T m c below code) {k : Nat} {i : Int} {v : Int32} (hd : decode code pc = .ok (.iinc k i, 3)) (hl : ls[k]? = some (.val (.int v))) (hl2 : storeLocals ls k (.int (v + Int32.ofInt i)) = some ls2) (hp : pc + 3 = pc1) (K : Go p.tables e below G (T.setTop (mkF m pc1 ls2 st))) : Go p.tables e below G (T.setTop (mkF m pc ls st)) := by
  subst hp; exact Go.via (fun _ k => Jvm.Free.XS.iinc q.1 q.2.1 rfl (hb q.2.2 hd) hl hl2 k) K
theorem g_dup (q : Q0 p T m c below code) {x : Value} (hd : decode code pc = .ok (.dup, 1)) (hc : x.category = 1) (hp : pc + 1 = pc1) (K : Go p.tables e below G (T.setTop (mkF m pc1 ls (x :: x :: st)))) : Go p.tables e below G (T.setTop (mkF m pc ls (x :: st))) := by
  subst hp; exact Go.via (fun _ k => Jvm.Free.XS.dup q.1 q.2.1 rfl (hb q.2.2 hd) rfl hc k) K
theorem g_pop (q : Q0 p T m c below code) {x : Value} (hd : decode code pc = .ok (.pop, 1)) (hc : x.category = 1) (hp : pc + 1 = pc1) (K : Go p.tables e below G (T.setTop (mkF m pc1 ls st))) : Go p.tables e below G (T.setTop (mkF m pc ls (x :: st))) := by
  subst hp; exact Go.via (fun _ k => Jvm.Free.XT.pop q.1 q.2.1 rfl (hb q.2.2 hd) rfl hc k) K
theorem g_dup2 (q : Q0 p T m c below code) {x y : Value} (hd : decode code pc = .ok (.dup2, 1)) (hc : x.category = 1) (hc2 : y.category = 1) (hp : pc + 1 = pc1) (K : Go p.tables e below G (T.setTop (mkF m pc1 ls (x :: y :: x :: y :: st)))) : Go p.tables e below G (T.setTop (mkF m pc ls (x :: y :: st))) := by
  subst hp; exact Go.via (fun _ k => Jvm.Free.XT.dup2 q.1 q.2.1 rfl (hb q.2.2 hd) rfl hc hc2 k) K
theorem g_goto (q : Q0 p T m c below code) {o : Int} (hd : decode code pc = .ok (.goto o, 3)) (ho : 0 ≤ (pc : Int) + o) (hp : ((pc : Int) + o).toNat = pc1) (K : Go p.tables e below G (T.setTop (mkF m pc1 ls st))) : Go p.tables e below G (T.setTop (mkF m pc ls st)) :=
  Go.via (fun _ k => Jvm.Free.XS.goto q.1 q.2.1 rfl rfl (hb q.2.2 hd) ho hp k) K
theorem g_ifY (q : Q0 p T m c below code) {cd : ClassFile.Cond} {x : Int32} {o : Int} (hd : decode code pc = .ok (.ifCond cd o, 3)) (ho : 0 ≤ (pc : Int) + o) (hp : ((pc : Int) + o).toNat = pc1) (h : cv cd x 0) (K : Go p.tables e below G (T.setTop (mkF m pc1 ls st))) : Go p.tables e below G (T.setTop (mkF m pc ls (.int x :: st))) :=
  Go.via (fun _ k => Jvm.Free.XS.ifYes q.1 q.2.1 rfl rfl (hb q.2.2 hd) rfl (by rw [if0]; exact cvY h) ho hp k) K
theorem g_ifN (q : Q0 p T m c below code) {cd : ClassFile.Cond} {x : Int32} {o : Int} (hd : decode code pc = .ok (.ifCond cd o, 3)) (hp : pc + 3 = pc2) (h : ¬ cv cd x 0) (K : Go p.tables e below G (T.setTop (mkF m pc2 ls st))) : Go p.tables e below G (T.setTop (mkF m pc ls (.int x :: st))) := by
  subst hp; exact Go.via (fun _ k => Jvm.Free.XS.ifNo q.1 q.2.1 rfl (hb q.2.2 hd) rfl (by rw [if0]; exact cvN h) k) K
theorem g_if (q : Q0 p T m c below code) {cd : ClassFile.Cond} {x : Int32} {o : Int} (hd : decode code pc = .ok (.ifCond cd o, 3)) (ho : 0 ≤ (pc : Int) + o) (hp : ((pc : Int) + o).toNat = pc1) (hp2 : pc + 3 = pc2) (K : cv cd x 0 → Go p.tables e below G (T.setTop (mkF m pc1 ls st))) (K2 : ¬ cv cd x 0 → Go p.tables e below G (T.setTop (mkF m pc2 ls st))) : Go p.tables e below G (T.setTop (mkF m pc ls (.int x :: st))) :=
  (cvD cd x 0).elim (fun h => g_ifY q hd ho hp h (K h)) (fun h => g_ifN q hd hp2 h (K2 h))
theorem g_cmpY (q : Q0 p T m c below code) {cd : ClassFile.Cond} {x y : Int32} {o : Int} (hd : decode code pc = .ok (.if_icmp cd o, 3)) (ho : 0 ≤ (pc : Int) + o) (hp : ((pc : Int) + o).toNat = pc1) (h : cv cd x y) (K : Go p.tables e below G (T.setTop (mkF m pc1 ls st))) : Go p.tables e below G (T.setTop (mkF m pc ls (.int y :: .int x :: st))) :=
  Go.via (fun _ k => Jvm.Free.XS.icmpYes q.1 q.2.1 rfl rfl (hb q.2.2 hd) rfl (cvY h) ho hp k) K
theorem g_cmpN (q : Q0 p T m c below code) {cd : ClassFile.Cond} {x y : Int32} {o : Int} (hd : decode code pc = .ok (.if_icmp cd o, 3)) (hp : pc + 3 = pc2) (h : ¬ cv cd x y) (K : Go p.tables e below G (T.setTop (mkF m pc2 ls st))) : Go p.tables e below G (T.setTop (mkF m pc ls (.int y :: .int x :: st))) := by
  subst hp; exact Go.via (fun _ k => Jvm.Free.XS.icmpNo q.1 q.2.1 rfl (hb q.2.2 hd) rfl (cvN h) k) K
theorem g_cmp (q : Q0 p T m c below code) {cd : ClassFile.Cond} {x y : Int32} {o : Int} (hd : decode code pc = .ok (.if_icmp cd o, 3)) (ho : 0 ≤ (pc : Int) + o) (hp : ((pc : Int) + o).toNat = pc1) (hp2 : pc + 3 = pc2) (K : cv cd x y → Go p.tables e below G (T.setTop (mkF m pc1 ls st))) (K2 : ¬ cv cd x y → Go p.tables e below G (T.setTop (mkF m pc2 ls st))) : Go p.tables e below G (T.setTop (mkF m pc ls (.int y :: .int x :: st))) :=
  (cvD cd x y).elim (fun h => g_cmpY q hd ho hp h (K h)) (fun h => g_cmpN q hd hp2 h (K2 h))
theorem g_nullY (q : Q0 p T m c below code) {o : Int} (hd : decode code pc = .ok (.ifnull o, 3)) (ho : 0 ≤ (pc : Int) + o) (hp : ((pc : Int) + o).toNat = pc1) (K : Go p.tables e below G (T.setTop (mkF m pc1 ls st))) : Go p.tables e below G (T.setTop (mkF m pc ls (.null :: st))) :=
  Go.via (fun _ k => Jvm.Free.XS.ifnullYes q.1 q.2.1 rfl rfl (hb q.2.2 hd) rfl ho hp k) K
theorem g_nullN (q : Q0 p T m c below code) {o : Int} {b : Addr} (hd : decode code pc = .ok (.ifnull o, 3)) (hp : pc + 3 = pc2) (K : Go p.tables e below G (T.setTop (mkF m pc2 ls st))) : Go p.tables e below G (T.setTop (mkF m pc ls (.ref b :: st))) := by
  subst hp; exact Go.via (fun _ k => Jvm.Free.XS.ifnullNo q.1 q.2.1 rfl (hb q.2.2 hd) rfl k) K
theorem g_nonY (q : Q0 p T m c below code) {b : Addr} {o : Int} (hd : decode code pc = .ok (.ifnonnull o, 3)) (ho : 0 ≤ (pc : Int) + o) (hp : ((pc : Int) + o).toNat = pc1) (K : Go p.tables e below G (T.setTop (mkF m pc1 ls st))) : Go p.tables e below G (T.setTop (mkF m pc ls (.ref b :: st))) :=
  Go.via (fun _ k => Jvm.Free.XT.ifnonnullYes q.1 q.2.1 rfl rfl (hb q.2.2 hd) rfl ho hp k) K
theorem g_nonN (q : Q0 p T m c below code) {o : Int} (hd : decode code pc = .ok (.ifnonnull o, 3)) (hp : pc + 3 = pc2) (K : Go p.tables e below G (T.setTop (mkF m pc2 ls st))) : Go p.tables e below G (T.setTop (mkF m pc ls (.null :: st))) := by
  subst hp; exact Go.via (fun _ k => Jvm.Free.XT.ifnonnullNo q.1 q.2.1 rfl (hb q.2.2 hd) rfl k) K
theorem g_acmpY (q : Q0 p T m c below code) {cd : ClassFile.ACond} {x y : Value} {o : Int} (hd : decode code pc = .ok (.if_acmp cd o, 3)) (ho : 0 ≤ (pc : Int) + o) (hp : ((pc : Int) + o).toNat = pc1) (hx : x.isRef = true) (hy : y.isRef = true) (h : Jvm.Free.XT.acmp cd x y = true) (K : Go p.tables e below G (T.setTop (mkF m pc1 ls st))) : Go p.tables e below G (T.setTop (mkF m pc ls (y :: x :: st))) :=
  Go.via (fun _ k => Jvm.Free.XT.acmpYes q.1 q.2.1 rfl rfl (hb q.2.2 hd) rfl hx hy h ho hp k) K
theorem g_acmpN (q : Q0 p T m c below code) {cd : ClassFile.ACond} {x y : Value} {o : Int} (hd : decode code pc = .ok (.if_acmp cd o, 3)) (hp : pc + 3 = pc2) (hx : x.isRef = true) (hy : y.isRef = true) (h : Jvm.Free.XT.acmp cd x y = false) (K : Go p.tables e below G (T.setTop (mkF m pc2 ls st))) : Go p.tables e below G (T.setTop (mkF m pc ls (y :: x :: st))) := by
  subst hp; exact Go.via (fun _ k => Jvm.Free.XT.acmpNo q.1 q.2.1 rfl (hb q.2.2 hd) rfl hx hy h k) K
end Plain
/-- every place lies in a cell of wl, or in one made since -/
def Frw (wl : List Addr) (n : Nat) (L : List Loc) : Prop := ∀ y ∈ L, y.base ∈ wl ∨ n ≤ y.base
theorem Frw.nil {wl : List Addr} {n : Nat} : Frw wl n [] := fun _ q => nomatch q
theorem Frw.app {wl : List Addr} {n : Nat} {L L' : List Loc} (A : Frw wl n L) (B : Frw wl n L') : Frw wl n (L ++ L') := fun y q => (List.mem_append.mp q).elim (A y) (B y)
theorem Frw.snoc {wl : List Addr} {n : Nat} {L : List Loc} {a : Addr} {sl : Nat} (A : Frw wl n L) (q : a ∈ wl ∨ n ≤ a) : Frw wl n (L ++ [⟨a, sl⟩]) := A.app fun y hy => by cases List.mem_singleton.mp hy; exact q
theorem Frw.up {wl wl' : List Addr} {n n' : Nat} {L : List Loc} (A : Frw wl n L) (hn : n' ≤ n) (q : ∀ x ∈ wl, x ∈ wl' ∨ n' ≤ x) : Frw wl' n' L := fun y hy => (A y hy).elim (q _) (fun z => Or.inr (Nat.le_trans hn z))
theorem Frw.of_fr {wl : List Addr} {n n' : Nat} {L : List Loc} (A : Fr n L) (hn : n' ≤ n) : Frw wl n' L := fun y hy => Or.inr (Nat.le_trans hn (A y hy))
/-- where a walk stands: s its true start, vm0 the tables of its last interning step, h the heap -/
def Pos (p : Program) (l : Launch) (e : Env) (R : Room) (s : State) (m : MethodId) (args : Array Value) (below : List Frame) (meth : Method) (c : Code) (code : ByteArray) (Z : State) (EL : List (String × Nat)) (wl : List Addr) (hS : Heap) (own : String) (vm0 : Vm) (T : State) (locs : List Loc) (cells slots : Nat) (h : Heap) : Prop :=
  Stand p l e R (s.setVm vm0) m args below meth c T locs cells slots ∧ T.heap = h ∧ (∃ k0, s.Since vm0 k0 ∧ k0 ≤ h.size) ∧ Z.Warmed39 vm0 ∧ vm0.findClass own = some m.cls ∧ Frw wl hS.size locs ∧ s.heap = hS ∧ CHr Z EL s.vm hS vm0 h ∧ p.tables.exec = Jvm.exec ∧ c.code = code
section Heapy
variable {p : Program} {l : Launch} {e : Env} {R : Room} {s : State} {m : MethodId} {args : Array Value} {below : List Frame} {meth : Method} {c : Code} {code : ByteArray} {Z : State} {EL : List (String × Nat)} {wl : List Addr} {hS : Heap} {own : String} {vm0 : Vm} {T : State} {locs : List Loc} {cells slots : Nat} {h : Heap} {a0 : Array Value} {G : Outcome → State → Prop} {pc pc1 pc2 : Nat} {ls ls2 : Array Slot} {st : List Value}
theorem Pos.q (P : Pos p l e R s m args below meth c code Z EL wl hS own vm0 T locs cells slots h) : Q0 p T m c below code := ⟨P.1.here, P.2.2.2.2.2.2.2.2⟩
theorem Pos.hz (P : Pos p l e R s m args below meth c code Z EL wl hS own vm0 T locs cells slots h) : Z.Warmed39 (s.setVm vm0).vm := P.2.2.2.1
theorem Pos.al (P : Pos p l e R s m args below meth c code Z EL wl hS own vm0 T locs cells slots h) : Z.vm.Alike vm0 := P.2.2.2.1.alike
theorem Pos.heap (P : Pos p l e R s m args below meth c code Z EL wl hS own vm0 T locs cells slots h) : T.heap = h := P.2.1
theorem Pos.fr (P : Pos p l e R s m args below meth c code Z EL wl hS own vm0 T locs cells slots h) : Frw wl hS.size locs := P.2.2.2.2.2.1
theorem Pos.sz (P : Pos p l e R s m args below meth c code Z EL wl hS own vm0 T locs cells slots h) : hS.size ≤ h.size := P.2.2.2.2.2.2.2.1.2.1
theorem Pos.chv (P : Pos p l e R s m args below meth c code Z EL wl hS own vm0 T locs cells slots h) : CHv Z EL vm0 h := P.2.2.2.2.2.2.2.1.1
theorem Pos.chr (P : Pos p l e R s m args below meth c code Z EL wl hS own vm0 T locs cells slots h) : CHr Z EL s.vm hS vm0 h := P.2.2.2.2.2.2.2.1
theorem Pos.mono (P : Pos p l e R s m args below meth c code Z EL wl hS own vm0 T locs cells slots h) {cells' slots' : Nat} (hc : cells ≤ cells') (hs : slots ≤ slots') : Pos p l e R s m args below meth c code Z EL wl hS own vm0 T locs cells' slots' h := ⟨P.1.mono hc hs, P.2⟩
theorem Pos.keep (P : Pos p l e R s m args below meth c code Z EL wl hS own vm0 T locs cells slots h) : Keep hS h wl := by
  obtain ⟨X, rfl, -, -, -, N, rfl, -⟩ := P
  have hsame := X.same
  have key : ∀ (x : Addr) (c0 : Cell), s.heap[x]? = some c0 → x ∉ wl → T.heap[x]? = some c0 := fun x c0 q r => by
    obtain ⟨c', h1, h2, -, h4⟩ := hsame.2.2.2.2.2 x c0 q
    have hb := (Array.getElem?_eq_some_iff.mp q).1
    have hsl : c'.slots = c0.slots := Array.ext_getElem? fun i => h4 i fun hm => (N _ hm).elim r (fun z => absurd hb (Nat.not_lt.mpr z))
    have hcc : c' = c0 := by rw [h2, hsl]
    rw [← hcc]; exact h1
  exact ⟨hsame.2.1, key, fun x c0 q => by
    obtain ⟨c', h1, h2, h3, -⟩ := hsame.2.2.2.2.2 x c0 q
    exact ⟨c', h1, by rw [h2], by rw [h2], h3⟩⟩
theorem Pos.ext0 (P : Pos p l e R s m args below meth c code Z EL [] hS own vm0 T locs cells slots h) : Ext hS h := ⟨P.keep.1, fun a c q => P.keep.2.1 a c q nin0⟩
theorem Pos.extZ (P : Pos p l e R s m args below meth c code Z EL wl hS own vm0 T locs cells slots h) (EZ : Ext Z.heap hS) (q : ∀ x ∈ wl, Z.heap.size ≤ x) : Ext Z.heap h := ⟨Nat.le_trans EZ.1 P.keep.1, fun a c r => P.keep.2.1 a c (EZ.2 a c r) fun z => absurd (Array.getElem?_eq_some_iff.mp r).1 (Nat.not_lt.mpr (q a z))⟩
/-- a step that leaves heap and tables of interned texts as they are -/
theorem Pos.same (P : Pos p l e R s m args below meth c code Z EL wl hS own vm0 T locs cells slots h) {T' : State} (X' : Stand p l e R (s.setVm vm0) m args below meth c T' locs cells slots) (e' : T'.heap = h) : Pos p l e R s m args below meth c code Z EL wl hS own vm0 T' locs cells slots h := by
  obtain ⟨X, eT, hsi, hZ, hown, N, n1, C, hx, hby⟩ := P; exact ⟨X', e', hsi, hZ, hown, N, n1, C, hx, hby⟩
theorem Pos.grown (P : Pos p l e R s m args below meth c code Z EL wl hS own vm0 T locs cells slots h) {T' : State} {h' : Heap} {cells' slots' : Nat} (X' : Stand p l e R (s.setVm vm0) m args below meth c T' locs cells' slots') (e' : T'.heap = h') (E : Ext h h') : Pos p l e R s m args below meth c code Z EL wl hS own vm0 T' locs cells' slots' h' := by
  obtain ⟨X, eT, hsi, hZ, hown, N, n1, C, hx, hby⟩ := P; obtain ⟨k0, q1, q2⟩ := hsi; exact ⟨X', e', ⟨k0, q1, Nat.le_trans q2 E.1⟩, hZ, hown, N, n1, C.trans (CHr.ext E C.1), hx, hby⟩
theorem Pos.wrote (P : Pos p l e R s m args below meth c code Z EL wl hS own vm0 T locs cells slots h) {T' : State} {h' : Heap} {a : Addr} {sl : Nat} {v : Value} (X' : Stand p l e R (s.setVm vm0) m args below meth c T' (locs ++ [⟨a, sl⟩]) cells slots) (e' : T'.heap = h') (Wq : Wr h h' a sl v) (ga : a ∈ wl ∨ hS.size ≤ a) (S : Safe Z EL vm0 h a) : Pos p l e R s m args below meth c code Z EL wl hS own vm0 T' (locs ++ [⟨a, sl⟩]) cells slots h' := by
  obtain ⟨X, eT, hsi, hZ, hown, N, n1, C, hx, hby⟩ := P; obtain ⟨k0, q1, q2⟩ := hsi; have hs := Wq.size; exact ⟨X', e', ⟨k0, q1, by omega⟩, hZ, hown, N.snoc ga, n1, C.trans (CHr.wr Wq S C.1), hx, hby⟩
theorem Pos.came (P : Pos p l e R s m args below meth c code Z EL wl hS own vm0 T locs cells slots h) {T' : State} {L : List Loc} {cells' slots' : Nat} (X' : Stand p l e R (s.setVm vm0) m args below meth c T' (locs ++ L) cells' slots') (F : Frw wl hS.size L) (C' : CHr Z EL vm0 h vm0 T'.heap) : Pos p l e R s m args below meth c code Z EL wl hS own vm0 T' (locs ++ L) cells' slots' T'.heap := by
  obtain ⟨X, eT, hsi, hZ, hown, N, n1, C, hx, hby⟩ := P; obtain ⟨k0, q1, q2⟩ := hsi; have hs := C'.2.1; exact ⟨X', rfl, ⟨k0, q1, Nat.le_trans q2 hs⟩, hZ, hown, N.app F, n1, C.trans C', hx, hby⟩
theorem Pos.cameW (P : Pos p l e R s m args below meth c code Z EL wl hS own vm0 T locs cells slots h) {T' : State} {L : List Loc} {cells' slots' : Nat} (X' : Stand p l e R ((s.setVm vm0).setVm T'.vm) m args below meth c T' (locs ++ L) cells' slots') (h2 : (s.setVm vm0).Since T'.vm T'.heap.size) (g : h.size ≤ T'.heap.size) (F : Frw wl hS.size L) (C' : CHr Z EL vm0 h T'.vm T'.heap) : Pos p l e R s m args below meth c code Z EL wl hS own T'.vm T' (locs ++ L) cells' slots' T'.heap := by
  obtain ⟨X, eT, hsi, hZ, hown, N, n1, C, hx, hby⟩ := P; obtain ⟨k0, q1, q2⟩ := hsi
  obtain ⟨y1, y2, y3, y4⟩ := rebS q1 q2 X' h2 g hZ hown
  exact ⟨y1, rfl, ⟨_, y2, Nat.le_refl _⟩, y3, y4, N.app F, n1, C.trans C', hx, hby⟩
theorem Pos.getF (P : Pos p l e R s m args below meth c code Z EL wl hS own vm0 T locs cells slots h) {R0 O n d host : String} {index : Nat} {a : Addr} {v : Value} (w : (Cond.fieldLink own index R0 n d).before a0 Z = true ∨ (Cond.fieldLinkNest own index R0 n d host).before a0 Z = true) (via : Via Z R0 O n d) (F : Fld Z h a O n d v) (hd : decode code pc = .ok (.getfield index, 3)) (hp : pc + 3 = pc1) (K : ∀ (T' : State), Pos p l e R s m args below meth c code Z EL wl hS own vm0 T' locs cells slots h → Go p.tables e below G (T'.setTop (mkF m pc1 ls (v :: st)))) : Go p.tables e below G (T.setTop (mkF m pc ls (.ref a :: st))) := by
  subst hp
  obtain ⟨T', X', e', stp⟩ := RoadKit.getF P.1 P.q.2.1 P.hz P.2.2.2.2.1 w via P.heap F (g := mkF m pc ls (.ref a :: st)) rfl rfl (hb P.q.2.2 hd)
  exact Go.via stp (K T' (P.same X' e'))
theorem Pos.getS (P : Pos p l e R s m args below meth c code Z EL wl hS own vm0 T locs cells slots h) {R0 O n d : String} {index : Nat} {v : Value} (w : (Cond.fieldLink own index R0 n d).before a0 Z = true) (via : Via Z R0 O n d) (F : Sta Z h O n d v) (hd : decode code pc = .ok (.getstatic index, 3)) (hp : pc + 3 = pc1) (K : ∀ (T' : State), Pos p l e R s m args below meth c code Z EL wl hS own vm0 T' locs cells slots h → Go p.tables e below G (T'.setTop (mkF m pc1 ls (v :: st)))) : Go p.tables e below G (T.setTop (mkF m pc ls st)) := by
  subst hp
  obtain ⟨T', X', e', stp⟩ := RoadKit.getS (host := "") P.1 P.q.2.1 P.hz P.2.2.2.2.1 w via P.heap F (g := mkF m pc ls st) rfl (hb P.q.2.2 hd)
  exact Go.via stp (K T' (P.same X' e'))
theorem Pos.putF (P : Pos p l e R s m args below meth c code Z EL wl hS own vm0 T locs cells slots h) {R0 O n d host C : String} {index kk : Nat} {ty : FieldType} {a : Addr} {v old : Value} (w : (Cond.fieldLink own index R0 n d).before a0 Z = true ∨ (Cond.fieldLinkNest own index R0 n d host).before a0 Z = true) (via : Via Z R0 O n d) (F : Fld Z h a O n d old) (E : Exa Z h a C) (L : (Cond.lays C O n d).before a0 Z = true ∨ ((Cond.laysFinal C O n d).before a0 Z = true ∧ own = O ∧ meth.name = "<init>")) (wi : (Cond.instantiable C kk).before a0 Z = true) (hty : parseFieldDescriptor d = some ty) (hn : narrow ty v = v) (hf : fits ty v = true) (ga : a ∈ wl ∨ hS.size ≤ a) (S : Safe Z EL vm0 h a) (hd : decode code pc = .ok (.putfield index, 3)) (hp : pc + 3 = pc1) (K : ∀ (T' : State) (h' : Heap), Pos p l e R s m args below meth c code Z EL wl hS own vm0 T' (locs ++ [⟨a, RoadKit.slotOf Z O n d⟩]) cells slots h' → Wr h h' a (RoadKit.slotOf Z O n d) v → Go p.tables e below G (T'.setTop (mkF m pc1 ls st))) : Go p.tables e below G (T.setTop (mkF m pc ls (v :: .ref a :: st))) := by
  subst hp
  obtain ⟨T', h', X', e', W', stp⟩ := RoadKit.putF P.1 P.q.2.1 P.hz P.2.2.2.2.1 w via P.heap F E L wi hty hn hf (g := mkF m pc ls (v :: .ref a :: st)) rfl rfl (hb P.q.2.2 hd)
  exact Go.via stp (K T' h' (P.wrote X' e' W' ga S) W')
theorem Pos.newO (P : Pos p l e R s m args below meth c code Z EL wl hS own vm0 T locs cells slots h) {C : String} {index n : Nat} (w : (Cond.classLink own index C).before a0 Z = true) (wi : (Cond.instantiable C n).before a0 Z = true) (wz : (Cond.initialized C).before a0 Z = true) (hc : cells + 1 ≤ R.cells) (hl : slots + n ≤ R.slots) (hd : decode code pc = .ok (.new index, 3)) (hp : pc + 3 = pc1) (K : ∀ (T' : State) (h' : Heap) (x : Addr), x = h.size → Pos p l e R s m args below meth c code Z EL wl hS own vm0 T' locs (cells + 1) (slots + n) h' → Ext h h' → Exa Z h' x C → (∀ {O nm d : String} {ty : FieldType}, Laid Z a0 C O nm d → parseFieldDescriptor d = some ty → Fld Z h' x O nm d (defaultValue ty)) → (∃ cell : Cell, h'[x]? = some cell ∧ cell.vm = .none ∧ cell.monitor = {}) → Go p.tables e below G (T'.setTop (mkF m pc1 ls (.ref x :: st)))) : Go p.tables e below G (T.setTop (mkF m pc ls st)) := by
  subst hp
  obtain ⟨T', h', X', e', E', A', D', U', stp⟩ := RoadKit.newO P.1 P.q.2.1 P.hz P.2.2.2.2.1 w wi wz P.heap (g := mkF m pc ls st) rfl (hb P.q.2.2 hd) hc hl
  exact Go.via stp (K T' h' _ rfl (P.grown X' e' E') E' A' D' U')
theorem Pos.newP (P : Pos p l e R s m args below meth c code Z EL wl hS own vm0 T locs cells slots h) {aty : ArrayType} {n : Int32} {cap : Nat} (w : (Cond.arrayClass (newarray.typeOf aty)).before a0 Z = true) (hn : ¬ n < 0) (hcap : n.toNatClampNeg ≤ cap) (hb8 : cap * 8 ≤ 536870912) (hc : cells + 1 ≤ R.cells) (hl : slots + cap ≤ R.slots) (hd : decode code pc = .ok (.newarray aty, 2)) (hp : pc + 2 = pc1) (K : ∀ (T' : State) (h' : Heap) (x : Addr) (k : ClassId), x = h.size → Pos p l e R s m args below meth c code Z EL wl hS own vm0 T' locs (cells + 1) (slots + cap) h' → Ext h h' → Arv Z h' x k (newarray.typeOf aty) n (List.replicate n.toNatClampNeg (defaultValue (newarray.typeOf aty))) (defaultValue (newarray.typeOf aty)) → Go p.tables e below G (T'.setTop (mkF m pc1 ls (.ref x :: st)))) : Go p.tables e below G (T.setTop (mkF m pc ls (.int n :: st))) := by
  subst hp
  obtain ⟨T', h', k, X', e', E', A', stp⟩ := RoadKit.newP P.1 P.q.2.1 P.hz w P.heap (g := mkF m pc ls (.int n :: st)) rfl (hb P.q.2.2 hd) rfl hn hcap hb8 hc hl
  exact Go.via stp (K T' h' _ k rfl (P.grown X' e' E') E' ((Arv.new A' hn).pad (pad_rep [] _ _)))
theorem Pos.stC (P : Pos p l e R s m args below meth c code Z EL wl hS own vm0 T locs cells slots h) {a : Addr} {k : ClassId} {z j : Int32} {x : Int32} {vs : List Value} {d : Value} {i : Nat} (V : Arv Z h a k .char z vs d) (hj : ¬ j < 0) (hi : j.toNatClampNeg = i) (hl : i < vs.length) (hz : z.toNatClampNeg = vs.length) (ga : a ∈ wl ∨ hS.size ≤ a) (S : Safe Z EL vm0 h a) (hd : decode code pc = .ok (.castore, 1)) (hp : pc + 1 = pc1) (K : ∀ (T' : State) (h' : Heap), Pos p l e R s m args below meth c code Z EL wl hS own vm0 T' (locs ++ [⟨a, j.toNatClampNeg⟩]) cells slots h' → Wr h h' a j.toNatClampNeg (.int (nar .char x)) → Arv Z h' a k .char z (vs.set i (.int (nar .char x))) d → Go p.tables e below G (T'.setTop (mkF m pc1 ls st))) : Go p.tables e below G (T.setTop (mkF m pc ls (.int x :: .int j :: .ref a :: st))) := by
  subst hp
  obtain ⟨cl, A, q1, S1, q3, H1, G1⟩ := V
  obtain ⟨T', h', X', e', W', stp⟩ := RoadKit.stC P.1 P.q.2.1 P.hz P.heap A (j := j) (x := x) (fun y => y.elim hj (fun y => by rw [S1] at y; omega)) (g := mkF m pc ls (.int x :: .int j :: .ref a :: st)) rfl rfl (hb P.q.2.2 hd)
  exact Go.via stp (K T' h' (P.wrote X' e' W' ga S) W' (Arv.set A q1 S1 q3 H1 G1 (fits_nar_char x) W' i hi hl))
theorem Pos.stB (P : Pos p l e R s m args below meth c code Z EL wl hS own vm0 T locs cells slots h) {a : Addr} {k : ClassId} {z j : Int32} {x : Int32} {vs : List Value} {d : Value} {i : Nat} (V : Arv Z h a k .byte z vs d) (hj : ¬ j < 0) (hi : j.toNatClampNeg = i) (hl : i < vs.length) (hz : z.toNatClampNeg = vs.length) (ga : a ∈ wl ∨ hS.size ≤ a) (S : Safe Z EL vm0 h a) (hd : decode code pc = .ok (.bastore, 1)) (hp : pc + 1 = pc1) (K : ∀ (T' : State) (h' : Heap), Pos p l e R s m args below meth c code Z EL wl hS own vm0 T' (locs ++ [⟨a, j.toNatClampNeg⟩]) cells slots h' → Wr h h' a j.toNatClampNeg (.int (nar .byte x)) → Arv Z h' a k .byte z (vs.set i (.int (nar .byte x))) d → Go p.tables e below G (T'.setTop (mkF m pc1 ls st))) : Go p.tables e below G (T.setTop (mkF m pc ls (.int x :: .int j :: .ref a :: st))) := by
  subst hp
  obtain ⟨cl, A, q1, S1, q3, H1, G1⟩ := V
  obtain ⟨T', h', X', e', W', stp⟩ := RoadKit.stB P.1 P.q.2.1 P.hz P.heap A (j := j) (x := x) (fun y => y.elim hj (fun y => by rw [S1] at y; omega)) (g := mkF m pc ls (.int x :: .int j :: .ref a :: st)) rfl rfl (hb P.q.2.2 hd)
  exact Go.via stp (K T' h' (P.wrote X' e' W' ga S) W' (Arv.set A q1 S1 q3 H1 G1 (fits_nar_byte x) W' i hi hl))
theorem Pos.stZ (P : Pos p l e R s m args below meth c code Z EL wl hS own vm0 T locs cells slots h) {a : Addr} {k : ClassId} {z j : Int32} {x : Int32} {vs : List Value} {d : Value} {i : Nat} (V : Arv Z h a k .boolean z vs d) (hj : ¬ j < 0) (hi : j.toNatClampNeg = i) (hl : i < vs.length) (hz : z.toNatClampNeg = vs.length) (ga : a ∈ wl ∨ hS.size ≤ a) (S : Safe Z EL vm0 h a) (hd : decode code pc = .ok (.bastore, 1)) (hp : pc + 1 = pc1) (K : ∀ (T' : State) (h' : Heap), Pos p l e R s m args below meth c code Z EL wl hS own vm0 T' (locs ++ [⟨a, j.toNatClampNeg⟩]) cells slots h' → Wr h h' a j.toNatClampNeg (.int (nar .boolean x)) → Arv Z h' a k .boolean z (vs.set i (.int (nar .boolean x))) d → Go p.tables e below G (T'.setTop (mkF m pc1 ls st))) : Go p.tables e below G (T.setTop (mkF m pc ls (.int x :: .int j :: .ref a :: st))) := by
  subst hp
  obtain ⟨cl, A, q1, S1, q3, H1, G1⟩ := V
  obtain ⟨T', h', X', e', W', stp⟩ := RoadKit.stZ P.1 P.q.2.1 P.hz P.heap A (j := j) (x := x) (fun y => y.elim hj (fun y => by rw [S1] at y; omega)) (g := mkF m pc ls (.int x :: .int j :: .ref a :: st)) rfl rfl (hb P.q.2.2 hd)
  exact Go.via stp (K T' h' (P.wrote X' e' W' ga S) W' (Arv.set A q1 S1 q3 H1 G1 (fits_nar_bool x) W' i hi hl))
theorem Pos.stI (P : Pos p l e R s m args below meth c code Z EL wl hS own vm0 T locs cells slots h) {a : Addr} {k : ClassId} {z j : Int32} {x : Int32} {vs : List Value} {d : Value} {i : Nat} (V : Arv Z h a k .int z vs d) (hj : ¬ j < 0) (hi : j.toNatClampNeg = i) (hl : i < vs.length) (hz : z.toNatClampNeg = vs.length) (ga : a ∈ wl ∨ hS.size ≤ a) (S : Safe Z EL vm0 h a) (hd : decode code pc = .ok (.iastore, 1)) (hp : pc + 1 = pc1) (K : ∀ (T' : State) (h' : Heap), Pos p l e R s m args below meth c code Z EL wl hS own vm0 T' (locs ++ [⟨a, j.toNatClampNeg⟩]) cells slots h' → Wr h h' a j.toNatClampNeg (.int x) → Arv Z h' a k .int z (vs.set i (.int x)) d → Go p.tables e below G (T'.setTop (mkF m pc1 ls st))) : Go p.tables e below G (T.setTop (mkF m pc ls (.int x :: .int j :: .ref a :: st))) := by
  subst hp
  obtain ⟨cl, A, q1, S1, q3, H1, G1⟩ := V
  obtain ⟨T', h', X', e', W', stp⟩ := RoadKit.stI P.1 P.q.2.1 P.hz P.heap A (j := j) (x := x) (fun y => y.elim hj (fun y => by rw [S1] at y; omega)) (g := mkF m pc ls (.int x :: .int j :: .ref a :: st)) rfl rfl (hb P.q.2.2 hd)
  exact Go.via stp (K T' h' (P.wrote X' e' W' ga S) W' (Arv.set A q1 S1 q3 H1 G1 (rfl) W' i hi hl))
theorem Pos.stJ (P : Pos p l e R s m args below meth c code Z EL wl hS own vm0 T locs cells slots h) {a : Addr} {k : ClassId} {z j : Int32} {x : Int64} {vs : List Value} {d : Value} {i : Nat} (V : Arv Z h a k .long z vs d) (hj : ¬ j < 0) (hi : j.toNatClampNeg = i) (hl : i < vs.length) (hz : z.toNatClampNeg = vs.length) (ga : a ∈ wl ∨ hS.size ≤ a) (S : Safe Z EL vm0 h a) (hd : decode code pc = .ok (.lastore, 1)) (hp : pc + 1 = pc1) (K : ∀ (T' : State) (h' : Heap), Pos p l e R s m args below meth c code Z EL wl hS own vm0 T' (locs ++ [⟨a, j.toNatClampNeg⟩]) cells slots h' → Wr h h' a j.toNatClampNeg (.long x) → Arv Z h' a k .long z (vs.set i (.long x)) d → Go p.tables e below G (T'.setTop (mkF m pc1 ls st))) : Go p.tables e below G (T.setTop (mkF m pc ls (.long x :: .int j :: .ref a :: st))) := by
  subst hp
  obtain ⟨cl, A, q1, S1, q3, H1, G1⟩ := V
  obtain ⟨T', h', X', e', W', stp⟩ := RoadKit.stJ P.1 P.q.2.1 P.hz P.heap A (j := j) (x := x) (fun y => y.elim hj (fun y => by rw [S1] at y; omega)) (g := mkF m pc ls (.long x :: .int j :: .ref a :: st)) rfl rfl (hb P.q.2.2 hd)
  exact Go.via stp (K T' h' (P.wrote X' e' W' ga S) W' (Arv.set A q1 S1 q3 H1 G1 (rfl) W' i hi hl))
theorem Pos.stD (P : Pos p l e R s m args below meth c code Z EL wl hS own vm0 T locs cells slots h) {a : Addr} {k : ClassId} {z j : Int32} {x : UInt64} {vs : List Value} {d : Value} {i : Nat} (V : Arv Z h a k .double z vs d) (hj : ¬ j < 0) (hi : j.toNatClampNeg = i) (hl : i < vs.length) (hz : z.toNatClampNeg = vs.length) (ga : a ∈ wl ∨ hS.size ≤ a) (S : Safe Z EL vm0 h a) (hd : decode code pc = .ok (.dastore, 1)) (hp : pc + 1 = pc1) (K : ∀ (T' : State) (h' : Heap), Pos p l e R s m args below meth c code Z EL wl hS own vm0 T' (locs ++ [⟨a, j.toNatClampNeg⟩]) cells slots h' → Wr h h' a j.toNatClampNeg (.double x) → Arv Z h' a k .double z (vs.set i (.double x)) d → Go p.tables e below G (T'.setTop (mkF m pc1 ls st))) : Go p.tables e below G (T.setTop (mkF m pc ls (.double x :: .int j :: .ref a :: st))) := by
  subst hp
  obtain ⟨cl, A, q1, S1, q3, H1, G1⟩ := V
  obtain ⟨T', h', X', e', W', stp⟩ := RoadKit.stD P.1 P.q.2.1 P.hz P.heap A (j := j) (x := x) (fun y => y.elim hj (fun y => by rw [S1] at y; omega)) (g := mkF m pc ls (.double x :: .int j :: .ref a :: st)) rfl rfl (hb P.q.2.2 hd)
  exact Go.via stp (K T' h' (P.wrote X' e' W' ga S) W' (Arv.set A q1 S1 q3 H1 G1 (rfl) W' i hi hl))
theorem Pos.stF (P : Pos p l e R s m args below meth c code Z EL wl hS own vm0 T locs cells slots h) {a : Addr} {k : ClassId} {z j : Int32} {x : UInt32} {vs : List Value} {d : Value} {i : Nat} (V : Arv Z h a k .float z vs d) (hj : ¬ j < 0) (hi : j.toNatClampNeg = i) (hl : i < vs.length) (hz : z.toNatClampNeg = vs.length) (ga : a ∈ wl ∨ hS.size ≤ a) (S : Safe Z EL vm0 h a) (hd : decode code pc = .ok (.fastore, 1)) (hp : pc + 1 = pc1) (K : ∀ (T' : State) (h' : Heap), Pos p l e R s m args below meth c code Z EL wl hS own vm0 T' (locs ++ [⟨a, j.toNatClampNeg⟩]) cells slots h' → Wr h h' a j.toNatClampNeg (.float x) → Arv Z h' a k .float z (vs.set i (.float x)) d → Go p.tables e below G (T'.setTop (mkF m pc1 ls st))) : Go p.tables e below G (T.setTop (mkF m pc ls (.float x :: .int j :: .ref a :: st))) := by
  subst hp
  obtain ⟨cl, A, q1, S1, q3, H1, G1⟩ := V
  obtain ⟨T', h', X', e', W', stp⟩ := RoadKit.stF P.1 P.q.2.1 P.hz P.heap A (j := j) (x := x) (fun y => y.elim hj (fun y => by rw [S1] at y; omega)) (g := mkF m pc ls (.float x :: .int j :: .ref a :: st)) rfl rfl (hb P.q.2.2 hd)
  exact Go.via stp (K T' h' (P.wrote X' e' W' ga S) W' (Arv.set A q1 S1 q3 H1 G1 (rfl) W' i hi hl))
theorem Pos.ldC (P : Pos p l e R s m args below meth c code Z EL wl hS own vm0 T locs cells slots h) {a : Addr} {k : ClassId} {z j : Int32} {vs : List Value} {d v : Value} (V : Arv Z h a k .char z vs d) (hj : ¬ j < 0) (hz : j.toNatClampNeg < z.toNatClampNeg) (hv : vs.getD j.toNatClampNeg d = v) (hd : decode code pc = .ok (.caload, 1)) (hp : pc + 1 = pc1) (K : Go p.tables e below G (T.setTop (mkF m pc1 ls (v :: st)))) : Go p.tables e below G (T.setTop (mkF m pc ls (.int j :: .ref a :: st))) := by
  subst hp
  obtain ⟨cl, A, q1, S1, q3, H1, G1⟩ := V
  exact Go.via (fun t k => P.1.caload P.q.2.1 (j := j) (v := v) (by rw [P.heap]; exact A.1) (State.isArrayOf_alike P.hz.alike A.2.1) A.2.2 (fun y => y.elim hj (fun y => by rw [S1] at y; omega)) (by rw [← hv]; exact H1 _ (by rw [S1]; exact hz)) (g := mkF m pc ls (.int j :: .ref a :: st)) rfl rfl (hb P.q.2.2 hd) t k) K
theorem Pos.ldB (P : Pos p l e R s m args below meth c code Z EL wl hS own vm0 T locs cells slots h) {a : Addr} {k : ClassId} {z j : Int32} {vs : List Value} {d v : Value} (V : Arv Z h a k .byte z vs d) (hj : ¬ j < 0) (hz : j.toNatClampNeg < z.toNatClampNeg) (hv : vs.getD j.toNatClampNeg d = v) (hd : decode code pc = .ok (.baload, 1)) (hp : pc + 1 = pc1) (K : Go p.tables e below G (T.setTop (mkF m pc1 ls (v :: st)))) : Go p.tables e below G (T.setTop (mkF m pc ls (.int j :: .ref a :: st))) := by
  subst hp
  obtain ⟨cl, A, q1, S1, q3, H1, G1⟩ := V
  exact Go.via (fun t k => P.1.baloadBytes P.q.2.1 (j := j) (v := v) (by rw [P.heap]; exact A.1) (State.isArrayOf_alike P.hz.alike A.2.1) A.2.2 (fun y => y.elim hj (fun y => by rw [S1] at y; omega)) (by rw [← hv]; exact H1 _ (by rw [S1]; exact hz)) (g := mkF m pc ls (.int j :: .ref a :: st)) rfl rfl (hb P.q.2.2 hd) t k) K
theorem Pos.ldZ (P : Pos p l e R s m args below meth c code Z EL wl hS own vm0 T locs cells slots h) {a : Addr} {k : ClassId} {z j : Int32} {vs : List Value} {d v : Value} (V : Arv Z h a k .boolean z vs d) (hj : ¬ j < 0) (hz : j.toNatClampNeg < z.toNatClampNeg) (hv : vs.getD j.toNatClampNeg d = v) (hd : decode code pc = .ok (.baload, 1)) (hp : pc + 1 = pc1) (K : Go p.tables e below G (T.setTop (mkF m pc1 ls (v :: st)))) : Go p.tables e below G (T.setTop (mkF m pc ls (.int j :: .ref a :: st))) := by
  subst hp
  obtain ⟨cl, A, q1, S1, q3, H1, G1⟩ := V
  exact Go.via (fun t k => P.1.baloadBooleans P.q.2.1 (j := j) (v := v) (by rw [P.heap]; exact A.1) (State.isArrayOf_alike P.hz.alike A.2.1) A.2.2 (fun y => y.elim hj (fun y => by rw [S1] at y; omega)) (by rw [← hv]; exact H1 _ (by rw [S1]; exact hz)) (g := mkF m pc ls (.int j :: .ref a :: st)) rfl rfl (hb P.q.2.2 hd) t k) K
theorem Pos.ldI (P : Pos p l e R s m args below meth c code Z EL wl hS own vm0 T locs cells slots h) {a : Addr} {k : ClassId} {z j : Int32} {vs : List Value} {d v : Value} (V : Arv Z h a k .int z vs d) (hj : ¬ j < 0) (hz : j.toNatClampNeg < z.toNatClampNeg) (hv : vs.getD j.toNatClampNeg d = v) (hd : decode code pc = .ok (.iaload, 1)) (hp : pc + 1 = pc1) (K : Go p.tables e below G (T.setTop (mkF m pc1 ls (v :: st)))) : Go p.tables e below G (T.setTop (mkF m pc ls (.int j :: .ref a :: st))) := by
  subst hp
  obtain ⟨cl, A, q1, S1, q3, H1, G1⟩ := V
  exact Go.via (fun t k => P.1.iaload P.q.2.1 (j := j) (v := v) (by rw [P.heap]; exact A.1) (State.isArrayOf_alike P.hz.alike A.2.1) A.2.2 (fun y => y.elim hj (fun y => by rw [S1] at y; omega)) (by rw [← hv]; exact H1 _ (by rw [S1]; exact hz)) (g := mkF m pc ls (.int j :: .ref a :: st)) rfl rfl (hb P.q.2.2 hd) t k) K
theorem Pos.ldJ (P : Pos p l e R s m args below meth c code Z EL wl hS own vm0 T locs cells slots h) {a : Addr} {k : ClassId} {z j : Int32} {vs : List Value} {d v : Value} (V : Arv Z h a k .long z vs d) (hj : ¬ j < 0) (hz : j.toNatClampNeg < z.toNatClampNeg) (hv : vs.getD j.toNatClampNeg d = v) (hd : decode code pc = .ok (.laload, 1)) (hp : pc + 1 = pc1) (K : Go p.tables e below G (T.setTop (mkF m pc1 ls (v :: st)))) : Go p.tables e below G (T.setTop (mkF m pc ls (.int j :: .ref a :: st))) := by
  subst hp
  obtain ⟨cl, A, q1, S1, q3, H1, G1⟩ := V
  exact Go.via (fun t k => P.1.laload P.q.2.1 (j := j) (v := v) (by rw [P.heap]; exact A.1) (State.isArrayOf_alike P.hz.alike A.2.1) A.2.2 (fun y => y.elim hj (fun y => by rw [S1] at y; omega)) (by rw [← hv]; exact H1 _ (by rw [S1]; exact hz)) (g := mkF m pc ls (.int j :: .ref a :: st)) rfl rfl (hb P.q.2.2 hd) t k) K
theorem Pos.ldD (P : Pos p l e R s m args below meth c code Z EL wl hS own vm0 T locs cells slots h) {a : Addr} {k : ClassId} {z j : Int32} {vs : List Value} {d v : Value} (V : Arv Z h a k .double z vs d) (hj : ¬ j < 0) (hz : j.toNatClampNeg < z.toNatClampNeg) (hv : vs.getD j.toNatClampNeg d = v) (hd : decode code pc = .ok (.daload, 1)) (hp : pc + 1 = pc1) (K : Go p.tables e below G (T.setTop (mkF m pc1 ls (v :: st)))) : Go p.tables e below G (T.setTop (mkF m pc ls (.int j :: .ref a :: st))) := by
  subst hp
  obtain ⟨cl, A, q1, S1, q3, H1, G1⟩ := V
  exact Go.via (fun t k => P.1.daload P.q.2.1 (j := j) (v := v) (by rw [P.heap]; exact A.1) (State.isArrayOf_alike P.hz.alike A.2.1) A.2.2 (fun y => y.elim hj (fun y => by rw [S1] at y; omega)) (by rw [← hv]; exact H1 _ (by rw [S1]; exact hz)) (g := mkF m pc ls (.int j :: .ref a :: st)) rfl rfl (hb P.q.2.2 hd) t k) K
theorem Pos.ldF (P : Pos p l e R s m args below meth c code Z EL wl hS own vm0 T locs cells slots h) {a : Addr} {k : ClassId} {z j : Int32} {vs : List Value} {d v : Value} (V : Arv Z h a k .float z vs d) (hj : ¬ j < 0) (hz : j.toNatClampNeg < z.toNatClampNeg) (hv : vs.getD j.toNatClampNeg d = v) (hd : decode code pc = .ok (.faload, 1)) (hp : pc + 1 = pc1) (K : Go p.tables e below G (T.setTop (mkF m pc1 ls (v :: st)))) : Go p.tables e below G (T.setTop (mkF m pc ls (.int j :: .ref a :: st))) := by
  subst hp
  obtain ⟨cl, A, q1, S1, q3, H1, G1⟩ := V
  exact Go.via (fun t k => P.1.faload P.q.2.1 (j := j) (v := v) (by rw [P.heap]; exact A.1) (State.isArrayOf_alike P.hz.alike A.2.1) A.2.2 (fun y => y.elim hj (fun y => by rw [S1] at y; omega)) (by rw [← hv]; exact H1 _ (by rw [S1]; exact hz)) (g := mkF m pc ls (.int j :: .ref a :: st)) rfl rfl (hb P.q.2.2 hd) t k) K
theorem Pos.len (P : Pos p l e R s m args below meth c code Z EL wl hS own vm0 T locs cells slots h) {a : Addr} {k : ClassId} {ty : FieldType} {z : Int32} {vs : List Value} {d : Value} (V : Arv Z h a k ty z vs d) (hd : decode code pc = .ok (.arraylength, 1)) (hp : pc + 1 = pc1) (K : Go p.tables e below G (T.setTop (mkF m pc1 ls (.int z :: st)))) : Go p.tables e below G (T.setTop (mkF m pc ls (.ref a :: st))) := by
  subst hp
  obtain ⟨cl, A, q1, S1, q3, H1, G1⟩ := V
  rw [← len_of S1 q3] at K
  exact Go.via (fun t k => P.1.arraylength P.q.2.1 (cell := cl) (by rw [P.heap]; exact A.1) (State.isArrayOf_alike P.hz.alike A.2.1) (g := mkF m pc ls (.ref a :: st)) rfl (rest := st) rfl (hb P.q.2.2 hd) t k) K
theorem Pos.initO (P : Pos p l e R s m args below meth c code Z EL wl hS own vm0 T locs cells slots h) {idx : Nat} {a : Addr} {W : Nat} (w1 : (Cond.methodLink own idx Lib.objectInit).before a0 Z = true) (w2 : (Cond.instanceMethod Lib.objectInit).before a0 Z = true) (w3 : (Cond.code Lib.objectInit ⟨#[0xb1]⟩ 1 none).before a0 Z = true) (hsize : ls.size = c.maxLocals) (hf : 1 ≤ R.frames) (hW : (st.map fun v => v.category).sum ≤ W) (hl : W + 12 ≤ R.locals) (hd : decode code pc = .ok (.invokespecial idx, 3)) (hp : pc + 3 = pc1) (K : ∀ (T' : State), Pos p l e R s m args below meth c code Z EL wl hS own vm0 T' locs cells slots h → Go p.tables e below G (T'.setTop (mkF m pc1 ls st))) : Go p.tables e below G (T.setTop (mkF m pc ls (.ref a :: st))) := by
  subst hp
  obtain ⟨T', X', e', stp⟩ := RoadKit.initO P.1 P.q.2.1 P.hz P.2.2.2.2.1 w1 w2 w3 P.heap (g := mkF m pc ls (.ref a :: st)) rfl hsize rfl (hb P.q.2.2 hd) hf (W := W) (by show 2 * 0 + _ ≤ _; omega) hl
  exact Go.via stp (K T' (P.same X' e'))
theorem Pos.castY (P : Pos p l e R s m args below meth c code Z EL wl hS own vm0 T locs cells slots h) {C : String} {index : Nat} {a : Addr} (w : (Cond.classLink own index C).before a0 Z = true) (F : Ins Z h a C true) (hd : decode code pc = .ok (.checkcast index, 3)) (hp : pc + 3 = pc1) (K : ∀ (T' : State), Pos p l e R s m args below meth c code Z EL wl hS own vm0 T' locs cells slots h → Go p.tables e below G (T'.setTop (mkF m pc1 ls (.ref a :: st)))) : Go p.tables e below G (T.setTop (mkF m pc ls (.ref a :: st))) := by
  subst hp
  obtain ⟨T', X', e', stp⟩ := RoadKit.castY P.1 P.q.2.1 P.hz P.2.2.2.2.1 w P.heap F (g := mkF m pc ls (.ref a :: st)) rfl rfl (hb P.q.2.2 hd)
  exact Go.via stp (K T' (P.same X' e'))
theorem Pos.instY (P : Pos p l e R s m args below meth c code Z EL wl hS own vm0 T locs cells slots h) {C : String} {index : Nat} {a : Addr} (w : (Cond.classLink own index C).before a0 Z = true) (F : Ins Z h a C true) (hd : decode code pc = .ok (.instanceof index, 3)) (hp : pc + 3 = pc1) (K : ∀ (T' : State), Pos p l e R s m args below meth c code Z EL wl hS own vm0 T' locs cells slots h → Go p.tables e below G (T'.setTop (mkF m pc1 ls (.int 1 :: st)))) : Go p.tables e below G (T.setTop (mkF m pc ls (.ref a :: st))) := by
  subst hp
  obtain ⟨T', X', e', stp⟩ := RoadKit.instY P.1 P.q.2.1 P.hz P.2.2.2.2.1 w P.heap F (g := mkF m pc ls (.ref a :: st)) rfl rfl (hb P.q.2.2 hd)
  exact Go.via stp (K T' (P.same X' e'))
theorem Pos.instNull (P : Pos p l e R s m args below meth c code Z EL wl hS own vm0 T locs cells slots h) {index : Nat} (hd : decode code pc = .ok (.instanceof index, 3)) (hp : pc + 3 = pc1) (K : Go p.tables e below G (T.setTop (mkF m pc1 ls (.int 0 :: st)))) : Go p.tables e below G (T.setTop (mkF m pc ls (.null :: st))) := by
  subst hp; exact Go.via (P.1.instanceofNull P.q.2.1 (g := mkF m pc ls (.null :: st)) rfl rfl (hb P.q.2.2 hd)) K
theorem Pos.castNull (P : Pos p l e R s m args below meth c code Z EL wl hS own vm0 T locs cells slots h) {index : Nat} (hd : decode code pc = .ok (.checkcast index, 3)) (hp : pc + 3 = pc1) (K : Go p.tables e below G (T.setTop (mkF m pc1 ls (.null :: st)))) : Go p.tables e below G (T.setTop (mkF m pc ls (.null :: st))) := by
  subst hp; exact Go.via (P.1.checkcastNull P.q.2.1 (g := mkF m pc ls (.null :: st)) rfl rfl (hb P.q.2.2 hd)) K
theorem Pos.ldcO (P : Pos p l e R s m args below meth c code Z EL wl hS own vm0 T locs cells slots h) {index : Nat} {text : String} {n : Nat} (w : (Cond.stringLink own index text).before a0 Z = true) (wS : ∀ a ∈ Bundle.stringAtoms, a.before a0 Z = true) (hEL : EW Z a0 EL) (hn : 4 * text.toList.length ≤ n) (hbig : n ≤ 536870912) (hc : cells + 2 ≤ R.cells) (hl : slots + (n + 4) ≤ R.slots) (hd : decode code pc = .ok (.ldc index, 2)) (hp : pc + 2 = pc1)
    (K : ∀ (a : Addr) (T' : State) (h' : Heap), Pos p l e R s m args below meth c code Z EL wl hS own T'.vm T' locs (cells + 2) (slots + (n + 4)) h' → Ext h h' → CHr Z EL vm0 h T'.vm h' → Lit (s.setVm T'.vm) own index a → Go p.tables e below G (T'.setTop (mkF m pc1 ls (.ref a :: st)))) : Go p.tables e below G (T.setTop (mkF m pc ls st)) := by
  subst hp
  obtain ⟨X, eT, hsi, hZ, hown, N, n1, C, hx, hby⟩ := P
  obtain ⟨k0, q1, q2⟩ := hsi
  obtain ⟨a, T', h', k1, X', e', E', hS2, hk2, hW, hf, hC, hL, stp⟩ := RoadKit.ldcOH X hx hZ hown w wS eT q1 q2 hEL C.1 (g := mkF m pc ls st) rfl (hb hby hd) hn hbig hc hl
  exact Go.via stp (K a T' h' ⟨X', e', ⟨k1, hS2, hk2⟩, hW, hf, N, n1, C.trans hC, hx, hby⟩ E' hC hL)
theorem Pos.ldcR (P : Pos p l e R s m args below meth c code Z EL wl hS own vm0 T locs cells slots h) {index : Nat} {text : String} {n : Nat} (w : (Cond.stringLink own index text).before a0 Z = true) (wS : ∀ a ∈ Bundle.stringAtoms, a.before a0 Z = true) (hEL : EW Z a0 EL) (hmem : (own, index) ∈ EL) {vs : List Value} {z : Int32} (ht : (∀ c ∈ text.toList, c.toNat < 256) ∧ text.toList.map (fun c => Value.int (Jvm.Lit.byteI c.toNat.toUInt16)) = vs) (hz : ¬ z < 0) (hlz : z.toNatClampNeg = vs.length) (hn : 4 * text.toList.length ≤ n) (hbig : n ≤ 536870912) (hc : cells + 2 ≤ R.cells) (hl : slots + (n + 4) ≤ R.slots) (hd : decode code pc = .ok (.ldc index, 2)) (hp : pc + 2 = pc1)
    (K : ∀ (a : Addr) (T' : State) (h' : Heap) (b : Addr) (k : ClassId), Pos p l e R s m args below meth c code Z EL wl hS own T'.vm T' locs (cells + 2) (slots + (n + 4)) h' → Ext h h' → CHr Z EL vm0 h T'.vm h' → Exa Z h' a "java/lang/String" → Fld Z h' a "java/lang/String" "coder" "B" (.int 0) → Fld Z h' a "java/lang/String" "value" "[B" (.ref b) → Arv Z h' b k .byte z vs (.int 0) → (∀ x, Safe Z EL T'.vm h' x → x ≠ a ∧ x ≠ b) → Lit (s.setVm T'.vm) own index a → Go p.tables e below G (T'.setTop (mkF m pc1 ls (.ref a :: st)))) : Go p.tables e below G (T.setTop (mkF m pc ls st)) := by
  subst hp
  obtain ⟨X, eT, hsi, hZ, hown, N, n1, C, hx, hby⟩ := P
  obtain ⟨k0, q1, q2⟩ := hsi
  obtain ⟨a, T', h', k1, b, k, X', e', E', hS2, hk2, hW, hf, y1, y2, y3, y4, -, -, hC, hL, hne, stp⟩ := RoadKit.ldcCH X hx hZ hown w wS eT q1 q2 hEL hmem C.1 ht hz hlz (g := mkF m pc ls st) rfl (hb hby hd) hn hbig hc hl
  exact Go.via stp (K a T' h' b k ⟨X', e', ⟨k1, hS2, hk2⟩, hW, hf, N, n1, C.trans hC, hx, hby⟩ E' hC y1 y2 y3 y4 hne hL)
theorem Pos.callS (P : Pos p l e R s m args below meth c code Z EL wl hS own vm0 T locs cells slots h) {index : Nat} {y : MethodName} {bytes : ByteArray} {maxL : Nat} {ret : Option FieldType} {as' : Array Value} {rc rs W : Nat} {Q : Option Value → Heap → List Loc → Prop} {argsL st0 : List Value} (w1 : (Cond.methodLink own index y).before a0 Z = true) (w2 : (Cond.static y).before a0 Z = true) (w3 : (Cond.initialized y.cls).before a0 Z = true) (w4 : (Cond.code y bytes maxL ret).before a0 Z = true) (hy : y.cls ≠ "java/lang/invoke/MethodHandle" ∧ y.cls ≠ "java/lang/invoke/VarHandle") (hK : Back l R p e below (s.setVm vm0) args y 3 W (fun A a => a = as' ∧ A.U.heap = h ∧ A.cells + rc ≤ R.cells ∧ A.slots + rs ≤ R.slots) (fun A _ v B => ∃ L, Q v B.U.heap L ∧ B.locs = A.locs ++ L ∧ B.cells = A.cells + rc ∧ B.slots = A.slots + rs)) (hlen : ∀ sig, parseMethodDescriptor y.desc = some sig → argsL.length = sig.parameters.length) (hst : st = argsL.reverse ++ st0) (has : argsL.toArray = as') (hW : (st0.map fun v => v.category).sum ≤ W) (hsize : ls.size = c.maxLocals) (hc : cells + rc ≤ R.cells) (hs : slots + rs ≤ R.slots) (hF : ∀ v h' L, Q v h' L → Frw wl hS.size L ∧ CHr Z EL vm0 h vm0 h') (hd : decode code pc = .ok (.invokestatic index, 3)) (hp : pc + 3 = pc1)
    (K : ∀ (v : Option Value) (T' : State) (h' : Heap) (L : List Loc), Q v h' L → Pos p l e R s m args below meth c code Z EL wl hS own vm0 T' (locs ++ L) (cells + rc) (slots + rs) h' → Go p.tables e below G (T'.setTop (mkF m pc1 ls (v.toList ++ st0)))) : Go p.tables e below G (T.setTop (mkF m pc ls st)) := by
  subst hp
  obtain ⟨v, vm₁, ⟨U, Lx, cx, sx⟩, -, X', ⟨L, hQ, l1, l2, l3⟩, stp⟩ := Jvm.LawKit.callS P.1 P.q.2.1 P.2.2.2.2.1 (mvT P.hz w1) (mvT P.hz w2) (mvT P.hz w3) (mvT P.hz w4) hy hK (g := mkF m pc ls st) rfl hsize (argsL := argsL) (rest := st0) hlen hst (by show 2 * 0 + _ ≤ _; omega) (hb P.q.2.2 hd) (fun _ _ => ⟨has, P.heap, hc, hs⟩)
  dsimp only [Pt.U, Pt.locs, Pt.cells, Pt.slots] at *
  subst l1 l2 l3
  exact Go.via stp (K v U _ L hQ (P.came X' (hF _ _ _ hQ).1 (hF _ _ _ hQ).2))
theorem Pos.callN (P : Pos p l e R s m args below meth c code Z EL wl hS own vm0 T locs cells slots h) {index : Nat} {y : MethodName} {bytes : ByteArray} {maxL : Nat} {x : Addr} {as' : Array Value} {rc rs W : Nat} {Q : Option Value → Heap → List Loc → Prop} {argsL st0 : List Value} (hy1 : y.name = "<init>") (w1 : (Cond.methodLink own index y).before a0 Z = true) (w2 : (Cond.instanceMethod y).before a0 Z = true) (w4 : (Cond.code y bytes maxL none).before a0 Z = true) (hy : y.cls ≠ "java/lang/invoke/MethodHandle" ∧ y.cls ≠ "java/lang/invoke/VarHandle") (hK : Back l R p e below (s.setVm vm0) args y 3 W (fun A a => a = as' ∧ A.U.heap = h ∧ A.cells + rc ≤ R.cells ∧ A.slots + rs ≤ R.slots) (fun A _ v B => ∃ L, Q v B.U.heap L ∧ B.locs = A.locs ++ L ∧ B.cells = A.cells + rc ∧ B.slots = A.slots + rs)) (hlen : ∀ sig, parseMethodDescriptor y.desc = some sig → argsL.length = sig.parameters.length) (hst : st = argsL.reverse ++ .ref x :: st0) (has : (.ref x :: argsL).toArray = as') (hW : (st0.map fun v => v.category).sum ≤ W) (hsize : ls.size = c.maxLocals) (hc : cells + rc ≤ R.cells) (hs : slots + rs ≤ R.slots) (hF : ∀ v h' L, Q v h' L → Frw wl hS.size L ∧ CHr Z EL vm0 h vm0 h') (hd : decode code pc = .ok (.invokespecial index, 3)) (hp : pc + 3 = pc1)
    (K : ∀ (v : Option Value) (T' : State) (h' : Heap) (L : List Loc), Q v h' L → Pos p l e R s m args below meth c code Z EL wl hS own vm0 T' (locs ++ L) (cells + rc) (slots + rs) h' → Go p.tables e below G (T'.setTop (mkF m pc1 ls (v.toList ++ st0)))) : Go p.tables e below G (T.setTop (mkF m pc ls st)) := by
  subst hp
  obtain ⟨v, vm₁, ⟨U, Lx, cx, sx⟩, -, X', ⟨L, hQ, l1, l2, l3⟩, stp⟩ := Stand.specialBack P.1 P.q.2.1 hy1 P.2.2.2.2.1 (mvT P.hz w1) (mvT P.hz w2) (mvT P.hz w4) hy hK (g := mkF m pc ls st) rfl hsize (Steps.refl _) (a := x) (argsL := argsL) (rest := st0) hlen hst (by show 2 * 0 + _ ≤ _; omega) (hb P.q.2.2 hd) (fun _ _ => ⟨has, P.heap, hc, hs⟩)
  dsimp only [Pt.U, Pt.locs, Pt.cells, Pt.slots] at *
  subst l1 l2 l3
  exact Go.tr stp (K v U _ L hQ (P.came X' (hF _ _ _ hQ).1 (hF _ _ _ hQ).2))
theorem Pos.callV (P : Pos p l e R s m args below meth c code Z EL wl hS own vm0 T locs cells slots h) {index : Nat} {y z : MethodName} {x : Addr} {C : String} {as' : Array Value} {rc rs W : Nat} {Q : Option Value → Heap → List Loc → Prop} {argsL st0 : List Value} (E : Exa Z h x C) (w1 : (Cond.methodLink own index y).before a0 Z = true) (w2 : (Cond.declares y).before a0 Z = true) (w3 : (Cond.selects C y z).before a0 Z = true) (w4 : (Cond.instanceMethod z).before a0 Z = true) (nf : NotFace (s.setVm vm0) y) (hy : y.cls ≠ "java/lang/invoke/MethodHandle" ∧ y.cls ≠ "java/lang/invoke/VarHandle") (hK : Back l R p e below (s.setVm vm0) args z 3 W (fun A a => a = as' ∧ A.U.heap = h ∧ A.cells + rc ≤ R.cells ∧ A.slots + rs ≤ R.slots) (fun A _ v B => ∃ L, Q v B.U.heap L ∧ B.locs = A.locs ++ L ∧ B.cells = A.cells + rc ∧ B.slots = A.slots + rs)) (hlen : ∀ sig, parseMethodDescriptor y.desc = some sig → argsL.length = sig.parameters.length) (hst : st = argsL.reverse ++ .ref x :: st0) (has : (.ref x :: argsL).toArray = as') (hW : (st0.map fun v => v.category).sum ≤ W) (hsize : ls.size = c.maxLocals) (hc : cells + rc ≤ R.cells) (hs : slots + rs ≤ R.slots) (hF : ∀ v h' L, Q v h' L → Frw wl hS.size L ∧ CHr Z EL vm0 h vm0 h') (hd : decode code pc = .ok (.invokevirtual index, 3)) (hp : pc + 3 = pc1)
    (K : ∀ (v : Option Value) (T' : State) (h' : Heap) (L : List Loc), Q v h' L → Pos p l e R s m args below meth c code Z EL wl hS own vm0 T' (locs ++ L) (cells + rc) (slots + rs) h' → Go p.tables e below G (T'.setTop (mkF m pc1 ls (v.toList ++ st0)))) : Go p.tables e below G (T.setTop (mkF m pc ls st)) := by
  subst hp
  obtain ⟨cq, kq, qa, qb, qc⟩ := isOf P.hz P.heap E
  obtain ⟨v, vm₁, ⟨U, Lx, cx, sx⟩, -, X', ⟨L, hQ, l1, l2, l3⟩, stp⟩ := Stand.virtualBack P.1 P.q.2.1 (y := y) (z := z) P.2.2.2.2.1 (mvT P.hz w1) (mvT P.hz w2) nf (mvT P.hz w3) (mvT P.hz w4) hy hK qa qc (g := mkF m pc ls st) rfl hsize (Steps.refl _) (argsL := argsL) (rest := st0) hlen hst (by show 2 * 0 + _ ≤ _; omega) (hb P.q.2.2 hd) (fun _ _ => ⟨has, P.heap, hc, hs⟩)
  dsimp only [Pt.U, Pt.locs, Pt.cells, Pt.slots] at *
  subst l1 l2 l3
  exact Go.tr stp (K v U _ L hQ (P.came X' (hF _ _ _ hQ).1 (hF _ _ _ hQ).2))
theorem Pos.callI (P : Pos p l e R s m args below meth c code Z EL wl hS own vm0 T locs cells slots h) {index count : Nat} {xi y : MethodName} {x : Addr} {C : String} {as' : Array Value} {rc rs W : Nat} {Q : Option Value → Heap → List Loc → Prop} {argsL st0 : List Value} (E : Exa Z h x C) (w1 : (Cond.methodLink own index xi).before a0 Z = true) (w2 : (Cond.declares xi).before a0 Z = true) (w3 : (Cond.interfaceMethod xi.cls xi.cls xi.name xi.desc).before a0 Z = true) (h3 : ((Cond.interfaceMethod xi.cls xi.cls xi.name xi.desc).onTables && (Cond.interfaceMethod xi.cls xi.cls xi.name xi.desc).keepsFace) = true) (w4 : (Cond.selects C xi y).before a0 Z = true) (w5 : (Cond.instanceMethod y).before a0 Z = true) (w6 : (Cond.publicMethod y).before a0 Z = true) (w7 : (Cond.unhidden C xi.name xi.desc).before a0 Z = true) (w8 : (Cond.castable C xi.cls).before a0 Z = true) (hy : xi.cls ≠ "java/lang/invoke/MethodHandle" ∧ xi.cls ≠ "java/lang/invoke/VarHandle") (hK : Back l R p e below (s.setVm vm0) args y 5 W (fun A a => a = as' ∧ A.U.heap = h ∧ A.cells + rc ≤ R.cells ∧ A.slots + rs ≤ R.slots) (fun A _ v B => ∃ L, Q v B.U.heap L ∧ B.locs = A.locs ++ L ∧ B.cells = A.cells + rc ∧ B.slots = A.slots + rs)) (hlen : ∀ sig, parseMethodDescriptor xi.desc = some sig → argsL.length = sig.parameters.length) (hst : st = argsL.reverse ++ .ref x :: st0) (has : (.ref x :: argsL).toArray = as') (hW : (st0.map fun v => v.category).sum ≤ W) (hsize : ls.size = c.maxLocals) (hc : cells + rc ≤ R.cells) (hs : slots + rs ≤ R.slots) (hF : ∀ v h' L, Q v h' L → Frw wl hS.size L ∧ CHr Z EL vm0 h vm0 h') (hd : decode code pc = .ok (.invokeinterface index count, 5)) (hp : pc + 5 = pc1)
    (K : ∀ (v : Option Value) (T' : State) (h' : Heap) (L : List Loc), Q v h' L → Pos p l e R s m args below meth c code Z EL wl hS own vm0 T' (locs ++ L) (cells + rc) (slots + rs) h' → Go p.tables e below G (T'.setTop (mkF m pc1 ls (v.toList ++ st0)))) : Go p.tables e below G (T.setTop (mkF m pc ls st)) := by
  subst hp
  obtain ⟨cq, kq, qa, qb, qc⟩ := isOf P.hz P.heap E
  obtain ⟨v, vm₁, ⟨U, Lx, cx, sx⟩, -, X', ⟨L, hQ, l1, l2, l3⟩, stp⟩ := Stand.interfaceBack P.1 P.q.2.1 P.2.2.2.2.1 (mvT P.hz w1) (mvT P.hz w2) (mvT P.hz w3 h3) (mvT P.hz w4) (mvT P.hz w5) (mvT P.hz w6) (mvT P.hz w7) (mvT P.hz w8) hy hK qa qb qc (g := mkF m pc ls st) rfl hsize (Steps.refl _) (argsL := argsL) (rest := st0) hlen hst (by show 2 * 0 + _ ≤ _; omega) (hb P.q.2.2 hd) (fun _ _ => ⟨has, P.heap, hc, hs⟩)
  dsimp only [Pt.U, Pt.locs, Pt.cells, Pt.slots] at *
  subst l1 l2 l3
  exact Go.tr stp (K v U _ L hQ (P.came X' (hF _ _ _ hQ).1 (hF _ _ _ hQ).2))
theorem Pos.callSW (P : Pos p l e R s m args below meth c code Z EL wl hS own vm0 T locs cells slots h) {index : Nat} {y : MethodName} {bytes : ByteArray} {maxL : Nat} {ret : Option FieldType} {as' : Array Value} {rc rs W : Nat} {Q : Option Value → Heap → List Loc → Prop} {argsL st0 : List Value} (w1 : (Cond.methodLink own index y).before a0 Z = true) (w2 : (Cond.static y).before a0 Z = true) (w3 : (Cond.initialized y.cls).before a0 Z = true) (w4 : (Cond.code y bytes maxL ret).before a0 Z = true) (hy : y.cls ≠ "java/lang/invoke/MethodHandle" ∧ y.cls ≠ "java/lang/invoke/VarHandle") (hK : BackS l R p e below (s.setVm vm0) args y 3 W (fun A a => a = as' ∧ A.U.heap = h ∧ A.cells + rc ≤ R.cells ∧ A.slots + rs ≤ R.slots) (fun A _ v B => ∃ L, Q v B.U.heap L ∧ B.locs = A.locs ++ L ∧ B.cells = A.cells + rc ∧ B.slots = A.slots + rs ∧ CHr Z EL vm0 h B.U.vm B.U.heap)) (hlen : ∀ sig, parseMethodDescriptor y.desc = some sig → argsL.length = sig.parameters.length) (hst : st = argsL.reverse ++ st0) (has : argsL.toArray = as') (hW : (st0.map fun v => v.category).sum ≤ W) (hsize : ls.size = c.maxLocals) (hc : cells + rc ≤ R.cells) (hs : slots + rs ≤ R.slots) (hF : ∀ v h' L, Q v h' L → Frw wl hS.size L) (hd : decode code pc = .ok (.invokestatic index, 3)) (hp : pc + 3 = pc1)
    (K : ∀ (v : Option Value) (T' : State) (h' : Heap) (L : List Loc), Q v h' L → Pos p l e R s m args below meth c code Z EL wl hS own T'.vm T' (locs ++ L) (cells + rc) (slots + rs) h' → CHr Z EL vm0 h T'.vm h' → Go p.tables e below G (T'.setTop (mkF m pc1 ls (v.toList ++ st0)))) : Go p.tables e below G (T.setTop (mkF m pc ls st)) := by
  subst hp
  obtain ⟨v, vm₁, ⟨U, Lx, cx, sx⟩, -, X', hS', hgr, ⟨L, hQ, l1, l2, l3, hC⟩, stp⟩ := RoadKit.callSS P.1 P.q.2.1 P.2.2.2.2.1 (mvT P.hz w1) (mvT P.hz w2) (mvT P.hz w3) (mvT P.hz w4) hy hK (g := mkF m pc ls st) rfl hsize (argsL := argsL) (rest := st0) hlen hst (by show 2 * 0 + _ ≤ _; omega) (hb P.q.2.2 hd) (fun _ _ => ⟨has, P.heap, hc, hs⟩)
  dsimp only [Pt.U, Pt.locs, Pt.cells, Pt.slots] at *
  subst l1 l2 l3
  rw [P.heap] at hgr
  exact Go.tr stp (K v U _ L hQ (P.cameW X' hS' hgr (hF _ _ _ hQ) hC) hC)
theorem Pos.callNW (P : Pos p l e R s m args below meth c code Z EL wl hS own vm0 T locs cells slots h) {index : Nat} {y : MethodName} {bytes : ByteArray} {maxL : Nat} {x : Addr} {as' : Array Value} {rc rs W : Nat} {Q : Option Value → Heap → List Loc → Prop} {argsL st0 : List Value} (hy1 : y.name = "<init>") (w1 : (Cond.methodLink own index y).before a0 Z = true) (w2 : (Cond.instanceMethod y).before a0 Z = true) (w4 : (Cond.code y bytes maxL none).before a0 Z = true) (hy : y.cls ≠ "java/lang/invoke/MethodHandle" ∧ y.cls ≠ "java/lang/invoke/VarHandle") (hK : BackS l R p e below (s.setVm vm0) args y 3 W (fun A a => a = as' ∧ A.U.heap = h ∧ A.cells + rc ≤ R.cells ∧ A.slots + rs ≤ R.slots) (fun A _ v B => ∃ L, Q v B.U.heap L ∧ B.locs = A.locs ++ L ∧ B.cells = A.cells + rc ∧ B.slots = A.slots + rs ∧ CHr Z EL vm0 h B.U.vm B.U.heap)) (hlen : ∀ sig, parseMethodDescriptor y.desc = some sig → argsL.length = sig.parameters.length) (hst : st = argsL.reverse ++ .ref x :: st0) (has : (.ref x :: argsL).toArray = as') (hW : (st0.map fun v => v.category).sum ≤ W) (hsize : ls.size = c.maxLocals) (hc : cells + rc ≤ R.cells) (hs : slots + rs ≤ R.slots) (hF : ∀ v h' L, Q v h' L → Frw wl hS.size L) (hd : decode code pc = .ok (.invokespecial index, 3)) (hp : pc + 3 = pc1)
    (K : ∀ (v : Option Value) (T' : State) (h' : Heap) (L : List Loc), Q v h' L → Pos p l e R s m args below meth c code Z EL wl hS own T'.vm T' (locs ++ L) (cells + rc) (slots + rs) h' → CHr Z EL vm0 h T'.vm h' → Go p.tables e below G (T'.setTop (mkF m pc1 ls (v.toList ++ st0)))) : Go p.tables e below G (T.setTop (mkF m pc ls st)) := by
  subst hp
  obtain ⟨v, vm₁, ⟨U, Lx, cx, sx⟩, -, X', hS', hgr, ⟨L, hQ, l1, l2, l3, hC⟩, stp⟩ := Stand.specialBackS P.1 P.q.2.1 hy1 P.2.2.2.2.1 (mvT P.hz w1) (mvT P.hz w2) (mvT P.hz w4) hy hK (g := mkF m pc ls st) rfl hsize (Steps.refl _) (a := x) (argsL := argsL) (rest := st0) hlen hst (by show 2 * 0 + _ ≤ _; omega) (hb P.q.2.2 hd) (fun _ _ => ⟨has, P.heap, hc, hs⟩)
  dsimp only [Pt.U, Pt.locs, Pt.cells, Pt.slots] at *
  subst l1 l2 l3
  rw [P.heap] at hgr
  exact Go.tr stp (K v U _ L hQ (P.cameW X' hS' hgr (hF _ _ _ hQ) hC) hC)
theorem Pos.callVW (P : Pos p l e R s m args below meth c code Z EL wl hS own vm0 T locs cells slots h) {index : Nat} {y z : MethodName} {x : Addr} {C : String} {as' : Array Value} {rc rs W : Nat} {Q : Option Value → Heap → List Loc → Prop} {argsL st0 : List Value} (E : Exa Z h x C) (w1 : (Cond.methodLink own index y).before a0 Z = true) (w2 : (Cond.declares y).before a0 Z = true) (w3 : (Cond.selects C y z).before a0 Z = true) (w4 : (Cond.instanceMethod z).before a0 Z = true) (nf : NotFace (s.setVm vm0) y) (hy : y.cls ≠ "java/lang/invoke/MethodHandle" ∧ y.cls ≠ "java/lang/invoke/VarHandle") (hK : BackS l R p e below (s.setVm vm0) args z 3 W (fun A a => a = as' ∧ A.U.heap = h ∧ A.cells + rc ≤ R.cells ∧ A.slots + rs ≤ R.slots) (fun A _ v B => ∃ L, Q v B.U.heap L ∧ B.locs = A.locs ++ L ∧ B.cells = A.cells + rc ∧ B.slots = A.slots + rs ∧ CHr Z EL vm0 h B.U.vm B.U.heap)) (hlen : ∀ sig, parseMethodDescriptor y.desc = some sig → argsL.length = sig.parameters.length) (hst : st = argsL.reverse ++ .ref x :: st0) (has : (.ref x :: argsL).toArray = as') (hW : (st0.map fun v => v.category).sum ≤ W) (hsize : ls.size = c.maxLocals) (hc : cells + rc ≤ R.cells) (hs : slots + rs ≤ R.slots) (hF : ∀ v h' L, Q v h' L → Frw wl hS.size L) (hd : decode code pc = .ok (.invokevirtual index, 3)) (hp : pc + 3 = pc1)
    (K : ∀ (v : Option Value) (T' : State) (h' : Heap) (L : List Loc), Q v h' L → Pos p l e R s m args below meth c code Z EL wl hS own T'.vm T' (locs ++ L) (cells + rc) (slots + rs) h' → CHr Z EL vm0 h T'.vm h' → Go p.tables e below G (T'.setTop (mkF m pc1 ls (v.toList ++ st0)))) : Go p.tables e below G (T.setTop (mkF m pc ls st)) := by
  subst hp
  obtain ⟨cq, kq, qa, qb, qc⟩ := isOf P.hz P.heap E
  obtain ⟨v, vm₁, ⟨U, Lx, cx, sx⟩, -, X', hS', hgr, ⟨L, hQ, l1, l2, l3, hC⟩, stp⟩ := Stand.virtualBackS P.1 P.q.2.1 (y := y) (z := z) P.2.2.2.2.1 (mvT P.hz w1) (mvT P.hz w2) nf (mvT P.hz w3) (mvT P.hz w4) hy hK qa qc (g := mkF m pc ls st) rfl hsize (Steps.refl _) (argsL := argsL) (rest := st0) hlen hst (by show 2 * 0 + _ ≤ _; omega) (hb P.q.2.2 hd) (fun _ _ => ⟨has, P.heap, hc, hs⟩)
  dsimp only [Pt.U, Pt.locs, Pt.cells, Pt.slots] at *
  subst l1 l2 l3
  rw [P.heap] at hgr
  exact Go.tr stp (K v U _ L hQ (P.cameW X' hS' hgr (hF _ _ _ hQ) hC) hC)
theorem Pos.callIW (P : Pos p l e R s m args below meth c code Z EL wl hS own vm0 T locs cells slots h) {index count : Nat} {xi y : MethodName} {x : Addr} {C : String} {as' : Array Value} {rc rs W : Nat} {Q : Option Value → Heap → List Loc → Prop} {argsL st0 : List Value} (E : Exa Z h x C) (w1 : (Cond.methodLink own index xi).before a0 Z = true) (w2 : (Cond.declares xi).before a0 Z = true) (w3 : (Cond.interfaceMethod xi.cls xi.cls xi.name xi.desc).before a0 Z = true) (h3 : ((Cond.interfaceMethod xi.cls xi.cls xi.name xi.desc).onTables && (Cond.interfaceMethod xi.cls xi.cls xi.name xi.desc).keepsFace) = true) (w4 : (Cond.selects C xi y).before a0 Z = true) (w5 : (Cond.instanceMethod y).before a0 Z = true) (w6 : (Cond.publicMethod y).before a0 Z = true) (w7 : (Cond.unhidden C xi.name xi.desc).before a0 Z = true) (w8 : (Cond.castable C xi.cls).before a0 Z = true) (hy : xi.cls ≠ "java/lang/invoke/MethodHandle" ∧ xi.cls ≠ "java/lang/invoke/VarHandle") (hK : BackS l R p e below (s.setVm vm0) args y 5 W (fun A a => a = as' ∧ A.U.heap = h ∧ A.cells + rc ≤ R.cells ∧ A.slots + rs ≤ R.slots) (fun A _ v B => ∃ L, Q v B.U.heap L ∧ B.locs = A.locs ++ L ∧ B.cells = A.cells + rc ∧ B.slots = A.slots + rs ∧ CHr Z EL vm0 h B.U.vm B.U.heap)) (hlen : ∀ sig, parseMethodDescriptor xi.desc = some sig → argsL.length = sig.parameters.length) (hst : st = argsL.reverse ++ .ref x :: st0) (has : (.ref x :: argsL).toArray = as') (hW : (st0.map fun v => v.category).sum ≤ W) (hsize : ls.size = c.maxLocals) (hc : cells + rc ≤ R.cells) (hs : slots + rs ≤ R.slots) (hF : ∀ v h' L, Q v h' L → Frw wl hS.size L) (hd : decode code pc = .ok (.invokeinterface index count, 5)) (hp : pc + 5 = pc1)
    (K : ∀ (v : Option Value) (T' : State) (h' : Heap) (L : List Loc), Q v h' L → Pos p l e R s m args below meth c code Z EL wl hS own T'.vm T' (locs ++ L) (cells + rc) (slots + rs) h' → CHr Z EL vm0 h T'.vm h' → Go p.tables e below G (T'.setTop (mkF m pc1 ls (v.toList ++ st0)))) : Go p.tables e below G (T.setTop (mkF m pc ls st)) := by
  subst hp
  obtain ⟨cq, kq, qa, qb, qc⟩ := isOf P.hz P.heap E
  obtain ⟨v, vm₁, ⟨U, Lx, cx, sx⟩, -, X', hS', hgr, ⟨L, hQ, l1, l2, l3, hC⟩, stp⟩ := Stand.interfaceBackS P.1 P.q.2.1 P.2.2.2.2.1 (mvT P.hz w1) (mvT P.hz w2) (mvT P.hz w3 h3) (mvT P.hz w4) (mvT P.hz w5) (mvT P.hz w6) (mvT P.hz w7) (mvT P.hz w8) hy hK qa qb qc (g := mkF m pc ls st) rfl hsize (Steps.refl _) (argsL := argsL) (rest := st0) hlen hst (by show 2 * 0 + _ ≤ _; omega) (hb P.q.2.2 hd) (fun _ _ => ⟨has, P.heap, hc, hs⟩)
  dsimp only [Pt.U, Pt.locs, Pt.cells, Pt.slots] at *
  subst l1 l2 l3
  rw [P.heap] at hgr
  exact Go.tr stp (K v U _ L hQ (P.cameW X' hS' hgr (hF _ _ _ hQ) hC) hC)
/-- what a body leaves, narrow: nothing interned -/
def GN (s : State) (Q : Option Value → Heap → List Loc → Prop) (rm : Room) (o : Outcome) (U : State) : Prop := ∃ v L, o = .returned v ∧ Q v U.heap L ∧ FrameEnd s o U L rm.cells rm.slots
/-- wide -/
def GW (s : State) (Z : State) (EL : List (String × Nat)) (h0 : Heap) (Q : Option Value → Heap → List Loc → Prop) (rm : Room) (o : Outcome) (U : State) : Prop := ∃ v L, o = .returned v ∧ Q v U.heap L ∧ CHr Z EL s.vm h0 U.vm U.heap ∧ ReturnedEndW s o U L rm.cells rm.slots
theorem Pos.endN {Q : Option Value → Heap → List Loc → Prop} {v : Option Value} (P : Pos p l e R s m args below meth c code Z EL wl hS own s.vm T locs cells slots h) (hlk : meth.locks = false) (hv : meth.sig.returnType = none → v = none) (hc : cells ≤ R.cells) (hs : slots ≤ R.slots) (hQ : Q v h locs) {g : JFrame}
    (stp : ∀ fs, (∀ (f : JFrame) (acts : List Action), f.method = m → f.locked = none → f.entered = [] → (doReturn e (T.setTop f) acts v).1 = T.setFrames fs) → Steps p.tables e below (T.setTop g) (T.setFrames fs)) : Go p.tables e below (GN s Q R) (T.setTop g) := by
  obtain ⟨fs, hr, hrun, hended, hW, hsame⟩ := P.1.leave (v := v) hv hlk
  refine ⟨_, _, stp fs hr, hrun, hended, v, locs, rfl, ?_, ⟨_, rfl⟩, hW, hsame.mono hc hs⟩
  have : (T.setFrames fs).heap = h := P.heap
  rw [this]; exact hQ
theorem Pos.endW {Q : Option Value → Heap → List Loc → Prop} {v : Option Value} (P : Pos p l e R s m args below meth c code Z EL wl hS own vm0 T locs cells slots h) (hEL : EW Z a0 EL) (hlk : meth.locks = false) (hv : meth.sig.returnType = none → v = none) (hc : cells ≤ R.cells) (hs : slots ≤ R.slots) (hQ : Q v h locs) {g : JFrame}
    (stp : ∀ fs, (∀ (f : JFrame) (acts : List Action), f.method = m → f.locked = none → f.entered = [] → (doReturn e (T.setTop f) acts v).1 = T.setFrames fs) → Steps p.tables e below (T.setTop g) (T.setFrames fs)) : Go p.tables e below (GW s Z EL hS Q R) (T.setTop g) := by
  obtain ⟨X, eT, ⟨k0, q1, q2⟩, hZ, hown, N, n1, C, hx, hby⟩ := P
  have X2 := X.mono hc hs
  obtain ⟨fs, hr, hrun, hended, hEnd⟩ := X2.leaveW q1 (by rw [eT]; exact q2) (v := v) hv hlk
  have hh : (T.setFrames fs).heap = h := eT
  refine ⟨_, _, stp fs hr, hrun, hended, v, locs, rfl, by rw [hh]; exact hQ, ?_, hEnd⟩
  rw [hh]; show CHr Z EL s.vm hS T.vm h; exact C.trans (CHv.at X hZ hEL C.1)
theorem Pos.retN {Q : Option Value → Heap → List Loc → Prop} (P : Pos p l e R s m args below meth c code Z EL wl hS own s.vm T locs cells slots h) (hlk : meth.locks = false) (hret : meth.sig.returnType = none) (hd : decode code pc = .ok (.return_, 1)) (hc : cells ≤ R.cells) (hs : slots ≤ R.slots) (hQ : Q none h locs) : Go p.tables e below (GN s Q R) (T.setTop (mkF m pc ls [])) :=
  P.endN hlk (fun _ => rfl) hc hs hQ fun fs hr => P.1.returnOut P.q.2.1 hret (hb P.q.2.2 hd) hr
theorem Pos.retIN {Q : Option Value → Heap → List Loc → Prop} (P : Pos p l e R s m args below meth c code Z EL wl hS own s.vm T locs cells slots h) (hlk : meth.locks = false) (hret : meth.sig.returnType = some .int) {z : Int32} (hd : decode code pc = .ok (.ireturn, 1)) (hc : cells ≤ R.cells) (hs : slots ≤ R.slots) (hQ : Q (some (.int z)) h locs) : Go p.tables e below (GN s Q R) (T.setTop (mkF m pc ls (.int z :: st))) :=
  P.endN hlk (fun q => by rw [hret] at q; cases q) hc hs hQ fun fs hr => retOut P.1 P.q.2.1 hret rfl (Or.inl ⟨rfl, Or.inl rfl, z, rfl⟩) (hb P.q.2.2 hd) hr
theorem Pos.retVN {Q : Option Value → Heap → List Loc → Prop} (P : Pos p l e R s m args below meth c code Z EL wl hS own s.vm T locs cells slots h) (hlk : meth.locks = false) {t : FieldType} (hret : meth.sig.returnType = some t) (ht : t = .boolean ∨ t = .byte ∨ t = .char ∨ t = .short) {z : Int32} (hd : decode code pc = .ok (.ireturn, 1)) (hc : cells ≤ R.cells) (hs : slots ≤ R.slots) (hQ : Q (some (.int (nar t z))) h locs) : Go p.tables e below (GN s Q R) (T.setTop (mkF m pc ls (.int z :: st))) :=
  P.endN hlk (fun q => by rw [hret] at q; cases q) hc hs hQ fun fs hr => RoadKit.retN P.1 P.q.2.1 hret ht (hb P.q.2.2 hd) hr
theorem Pos.retAN {Q : Option Value → Heap → List Loc → Prop} (P : Pos p l e R s m args below meth c code Z EL wl hS own s.vm T locs cells slots h) (hlk : meth.locks = false) {t : FieldType} (hret : meth.sig.returnType = some t) (ht : t.isReference = true) {v : Value} (hv : v.isRef = true) (hn : narrow t v = v) (hd : decode code pc = .ok (.areturn, 1)) (hc : cells ≤ R.cells) (hs : slots ≤ R.slots) (hQ : Q (some v) h locs) : Go p.tables e below (GN s Q R) (T.setTop (mkF m pc ls (v :: st))) :=
  P.endN hlk (fun q => by rw [hret] at q; cases q) hc hs hQ fun fs hr => retOut P.1 P.q.2.1 hret hn (Or.inr (Or.inr (Or.inr (Or.inr ⟨rfl, ht, hv⟩)))) (hb P.q.2.2 hd) hr
theorem Pos.retDN {Q : Option Value → Heap → List Loc → Prop} (P : Pos p l e R s m args below meth c code Z EL wl hS own s.vm T locs cells slots h) (hlk : meth.locks = false) (hret : meth.sig.returnType = some .double) {z : UInt64} (hd : decode code pc = .ok (.dreturn, 1)) (hc : cells ≤ R.cells) (hs : slots ≤ R.slots) (hQ : Q (some (.double z)) h locs) : Go p.tables e below (GN s Q R) (T.setTop (mkF m pc ls (.double z :: st))) :=
  P.endN hlk (fun q => by rw [hret] at q; cases q) hc hs hQ fun fs hr => retOut P.1 P.q.2.1 hret rfl (Or.inr (Or.inr (Or.inl ⟨rfl, rfl, z, rfl⟩))) (hb P.q.2.2 hd) hr
theorem Pos.retW {Q : Option Value → Heap → List Loc → Prop} (P : Pos p l e R s m args below meth c code Z EL wl hS own vm0 T locs cells slots h) (hEL : EW Z a0 EL) (hlk : meth.locks = false) (hret : meth.sig.returnType = none) (hd : decode code pc = .ok (.return_, 1)) (hc : cells ≤ R.cells) (hs : slots ≤ R.slots) (hQ : Q none h locs) : Go p.tables e below (GW s Z EL hS Q R) (T.setTop (mkF m pc ls [])) :=
  P.endW hEL hlk (fun _ => rfl) hc hs hQ fun fs hr => P.1.returnOut P.q.2.1 hret (hb P.q.2.2 hd) hr
theorem Pos.retIW {Q : Option Value → Heap → List Loc → Prop} (P : Pos p l e R s m args below meth c code Z EL wl hS own vm0 T locs cells slots h) (hEL : EW Z a0 EL) (hlk : meth.locks = false) (hret : meth.sig.returnType = some .int) {z : Int32} (hd : decode code pc = .ok (.ireturn, 1)) (hc : cells ≤ R.cells) (hs : slots ≤ R.slots) (hQ : Q (some (.int z)) h locs) : Go p.tables e below (GW s Z EL hS Q R) (T.setTop (mkF m pc ls (.int z :: st))) :=
  P.endW hEL hlk (fun q => by rw [hret] at q; cases q) hc hs hQ fun fs hr => retOut P.1 P.q.2.1 hret rfl (Or.inl ⟨rfl, Or.inl rfl, z, rfl⟩) (hb P.q.2.2 hd) hr
theorem Pos.retVW {Q : Option Value → Heap → List Loc → Prop} (P : Pos p l e R s m args below meth c code Z EL wl hS own vm0 T locs cells slots h) (hEL : EW Z a0 EL) (hlk : meth.locks = false) {t : FieldType} (hret : meth.sig.returnType = some t) (ht : t = .boolean ∨ t = .byte ∨ t = .char ∨ t = .short) {z : Int32} (hd : decode code pc = .ok (.ireturn, 1)) (hc : cells ≤ R.cells) (hs : slots ≤ R.slots) (hQ : Q (some (.int (nar t z))) h locs) : Go p.tables e below (GW s Z EL hS Q R) (T.setTop (mkF m pc ls (.int z :: st))) :=
  P.endW hEL hlk (fun q => by rw [hret] at q; cases q) hc hs hQ fun fs hr => RoadKit.retN P.1 P.q.2.1 hret ht (hb P.q.2.2 hd) hr
theorem Pos.retAW {Q : Option Value → Heap → List Loc → Prop} (P : Pos p l e R s m args below meth c code Z EL wl hS own vm0 T locs cells slots h) (hEL : EW Z a0 EL) (hlk : meth.locks = false) {t : FieldType} (hret : meth.sig.returnType = some t) (ht : t.isReference = true) {v : Value} (hv : v.isRef = true) (hn : narrow t v = v) (hd : decode code pc = .ok (.areturn, 1)) (hc : cells ≤ R.cells) (hs : slots ≤ R.slots) (hQ : Q (some v) h locs) : Go p.tables e below (GW s Z EL hS Q R) (T.setTop (mkF m pc ls (v :: st))) :=
  P.endW hEL hlk (fun q => by rw [hret] at q; cases q) hc hs hQ fun fs hr => retOut P.1 P.q.2.1 hret hn (Or.inr (Or.inr (Or.inr (Or.inr ⟨rfl, ht, hv⟩)))) (hb P.q.2.2 hd) hr
theorem Pos.retDW {Q : Option Value → Heap → List Loc → Prop} (P : Pos p l e R s m args below meth c code Z EL wl hS own vm0 T locs cells slots h) (hEL : EW Z a0 EL) (hlk : meth.locks = false) (hret : meth.sig.returnType = some .double) {z : UInt64} (hd : decode code pc = .ok (.dreturn, 1)) (hc : cells ≤ R.cells) (hs : slots ≤ R.slots) (hQ : Q (some (.double z)) h locs) : Go p.tables e below (GW s Z EL hS Q R) (T.setTop (mkF m pc ls (.double z :: st))) :=
  P.endW hEL hlk (fun q => by rw [hret] at q; cases q) hc hs hQ fun fs hr => retOut P.1 P.q.2.1 hret rfl (Or.inr (Or.inr (Or.inl ⟨rfl, rfl, z, rfl⟩))) (hb P.q.2.2 hd) hr
end Heapy
section Met
variable {l : Launch} {Z : State} {EL : List (String × Nat)} {y : MethodName} {bytes : ByteArray} {maxL : Nat} {ret : Option FieldType} {ws : List Jvm.Cond} {rm : Room} {as' : Array Value} {h0 : Heap} {Q : Option Value → Heap → List Loc → Prop} {a0 : Array Value}
/-- a body's contract, narrow (nothing interned) -/
def MetN (l : Launch) (Z : State) (y : MethodName) (bytes : ByteArray) (maxL : Nat) (ret : Option FieldType) (ws : List Jvm.Cond) (rm : Room) (as' : Array Value) (h0 : Heap) (Q : Option Value → Heap → List Loc → Prop) : Prop :=
  MetFree l y (head1 (Jvm.Cond.code y bytes maxL ret :: ws) rm) (fun a U => a = as' ∧ Z.Warmed39 U.vm ∧ U.heap = h0) (fun _ _ _ _ _ => True) (fun _ U o U' => GN U Q rm o U')
/-- .. wide; the places of ss are no booked String's -/
def MetW (l : Launch) (Z : State) (EL : List (String × Nat)) (y : MethodName) (bytes : ByteArray) (maxL : Nat) (ret : Option FieldType) (ws : List Jvm.Cond) (rm : Room) (as' : Array Value) (ss : List Addr) (h0 : Heap) (Q : Option Value → Heap → List Loc → Prop) : Prop :=
  MetFree l y (head1 (Jvm.Cond.code y bytes maxL ret :: ws) rm) (fun a U => a = as' ∧ Z.Warmed39 U.vm ∧ U.heap = h0 ∧ CHv Z EL U.vm h0 ∧ ∀ x ∈ ss, Safe Z EL U.vm h0 x) (fun _ _ _ _ _ => True) (fun _ U o U' => GW U Z EL h0 Q rm o U')
theorem MetN.mk {ls0 : Array Slot} (wl : List Addr) (hp : plainFor y = true) (hent : ∀ m, entryFrame m as' maxL = mkF m 0 ls0 [])
    (body : ∀ p e s m below meth c s₁, c.maxLocals = maxL → meth.sig.returnType = ret → meth.name = y.name → meth.locks = false → Pos p l e rm s m as' below meth c bytes Z [] wl h0 y.cls s.vm s₁ [] 0 0 h0 → Go p.tables e below (GN s Q rm) (s₁.setTop (mkF m 0 ls0 []))) : MetN l Z y bytes maxL ret ws rm as' h0 Q := by
  refine MetFree.of_bodySF hp hisR ?_
  intro p e s m args below meth c s₁ Bd hml hP hK
  obtain ⟨rfl, hZ, hh⟩ := hP
  have hown : s.vm.findClass y.cls = some m.cls := findClass_of_methodNamed Bd.named
  have hnm := (name_of_methodNamed Bd.named Bd.method).1
  have e0 : s₁.heap = h0 := by rw [← hh, Bd.state]; rfl
  have X0 : Stand p l e rm s m args below meth c s₁ [] 0 0 := Stand.of_body Bd
  have hC : CHv Z [] s.vm h0 := fun _ q => nomatch q
  rw [hent]
  exact body p e s m below meth c s₁ hml Bd.returns hnm Bd.notSynchronized ⟨X0, e0, ⟨0, (State.WarmedH.refl s).since _, Nat.zero_le _⟩, hZ, hown, Frw.nil, hh, CHr.refl hC, Bd.exec, Bd.bytes⟩
theorem MetW.mk {ls0 : Array Slot} {ss : List Addr} (wl : List Addr) (hp : plainFor y = true) (hent : ∀ m, entryFrame m as' maxL = mkF m 0 ls0 [])
    (body : ∀ p e s m below meth c s₁, c.maxLocals = maxL → meth.sig.returnType = ret → meth.name = y.name → meth.locks = false → (∀ x ∈ ss, Safe Z EL s.vm h0 x) → Pos p l e rm s m as' below meth c bytes Z EL wl h0 y.cls s.vm s₁ [] 0 0 h0 → Go p.tables e below (GW s Z EL h0 Q rm) (s₁.setTop (mkF m 0 ls0 []))) : MetW l Z EL y bytes maxL ret ws rm as' ss h0 Q := by
  refine MetFree.of_bodySF hp hisR ?_
  intro p e s m args below meth c s₁ Bd hml hP hK
  obtain ⟨rfl, hZ, hh, hC, hss⟩ := hP
  have hown : s.vm.findClass y.cls = some m.cls := findClass_of_methodNamed Bd.named
  have hnm := (name_of_methodNamed Bd.named Bd.method).1
  have e0 : s₁.heap = h0 := by rw [← hh, Bd.state]; rfl
  have X0 : Stand p l e rm s m args below meth c s₁ [] 0 0 := Stand.of_body Bd
  rw [hent]
  exact body p e s m below meth c s₁ hml Bd.returns hnm Bd.notSynchronized hss ⟨X0, e0, ⟨0, (State.WarmedH.refl s).since _, Nat.zero_le _⟩, hZ, hown, Frw.nil, hh, CHr.refl hC, Bd.exec, Bd.bytes⟩
variable {p : Program} {e : Env} {R : Room} {s : State} {args : Array Value} {below : List Frame} {vm0 : Vm} {len W : Nat} {m : MethodId} {meth : Method} {c : Code} {code : ByteArray} {wl : List Addr} {hS h : Heap} {own : String} {T : State} {locs : List Loc} {cells slots : Nat}
/-- a narrow contract pays a call -/
theorem MetN.pay (hM : MetN l Z y bytes maxL ret [] rm as' h Q) (P : Pos p l e R s m args below meth c code Z EL wl hS own vm0 T locs cells slots h) (wc : (Jvm.Cond.code y bytes maxL ret).before a0 Z = true) (wz : (Jvm.Cond.initialized y.cls).before a0 Z = true) (hf : rm.frames + 1 ≤ R.frames) (hl : W + (maxL + 11) + rm.locals ≤ R.locals) :
    Back l R p e below (s.setVm vm0) args y len W (fun A a => a = as' ∧ A.U.heap = h ∧ A.cells + rm.cells ≤ R.cells ∧ A.slots + rm.slots ≤ R.slots) (fun A _ v B => ∃ L, Q v B.U.heap L ∧ B.locs = A.locs ++ L ∧ B.cells = A.cells + rm.cells ∧ B.slots = A.slots + rm.slots) :=
  backOf hM P.hz wc wz hf hl
/-- a wide one -/
theorem MetW.pay {ss : List Addr} (hM : MetW l Z EL y bytes maxL ret [] rm as' ss h Q) (P : Pos p l e R s m args below meth c code Z EL wl hS own vm0 T locs cells slots h) (hEL : EW Z a0 EL) (hss : ∀ x ∈ ss, x < h.size ∧ Safe Z EL vm0 h x) (wc : (Jvm.Cond.code y bytes maxL ret).before a0 Z = true) (wz : (Jvm.Cond.initialized y.cls).before a0 Z = true) (hf : rm.frames + 1 ≤ R.frames) (hl : W + (maxL + 11) + rm.locals ≤ R.locals) :
    BackS l R p e below (s.setVm vm0) args y len W (fun A a => a = as' ∧ A.U.heap = h ∧ A.cells + rm.cells ≤ R.cells ∧ A.slots + rm.slots ≤ R.slots) (fun A _ v B => ∃ L, Q v B.U.heap L ∧ B.locs = A.locs ++ L ∧ B.cells = A.cells + rm.cells ∧ B.slots = A.slots + rm.slots ∧ CHr Z EL vm0 h B.U.vm B.U.heap) :=
  BackS.of_freeW (bytes := bytes) (maxL := maxL) (ret := ret) (E := fun _ first o t L k n => k = rm.cells ∧ n = rm.slots ∧ (∃ v, o = .returned v ∧ Q v t.heap L) ∧ CHr Z EL first.vm h t.vm t.heap) hM hf hl
    (fun m meth c A a Y hp => have hU : Z.Warmed39 A.U.vm := wtrans (s := s.setVm vm0) P.hz Y.warmed
      ⟨by show (Jvm.Cond.and _ .tt).before a A.U = true; rw [Jvm.Cond.before_and, mv hU wc]; rfl, mv hU wc, mv hU wz, hp.2.2.1, hp.2.2.2⟩)
    (fun m meth c A a g mk Y hp => ⟨hp.1, wtrans (s := s.setVm vm0) P.hz Y.warmed, hp.2.1, (CHv.at Y P.hz hEL P.chv).1, fun x hx => (CHv.at Y P.hz hEL P.chv).safe (hss x hx).1 (hss x hx).2⟩) (fun _ _ _ _ _ _ _ _ _ => trivial)
    (fun _ _ _ _ ⟨v, L, h1, h2, h3, h4⟩ => ⟨L, _, _, h4, rfl, rfl, ⟨v, h1, h2⟩, h3⟩)
    (fun m meth c A a g mk v t L k n Y hp _ _ ⟨e1, e2, ⟨v', e3, e4⟩, e5⟩ => by
      cases e3; subst e1 e2
      exact ⟨L, e4, rfl, rfl, rfl, (CHv.at Y P.hz hEL P.chv).trans e5⟩)
end Met
/-- what a body that touches nothing says -/
def Pure (v : Option Value) (h0 : Heap) (u : Option Value) (h : Heap) (L : List Loc) : Prop := u = v ∧ L = [] ∧ h0 = h
theorem Pure.ok {v : Option Value} {h0 : Heap} {Z : State} {EL : List (String × Nat)} {vm0 : Vm} {wl : List Addr} {n : Nat} (H : CHv Z EL vm0 h0) : ∀ u h L, Pure v h0 u h L → Frw wl n L ∧ CHr Z EL vm0 h0 vm0 h := fun u h L q => by
  obtain ⟨-, rfl, rfl⟩ := q; exact ⟨Frw.nil, CHr.refl H⟩
theorem Ext.keepNew {h0 h h' : Heap} {wl : List Addr} (E : Ext h0 h) (K : Keep h h' wl) (q : ∀ x ∈ wl, h0.size ≤ x) : Ext h0 h' := ⟨Nat.le_trans E.1 K.1, fun a c r => K.2.1 a c (E.2 a c r) fun z => absurd (Array.getElem?_eq_some_iff.mp r).1 (Nat.not_lt.mpr (q a z))⟩
theorem Ext.trans {h0 h h' : Heap} (E : Ext h0 h) (E' : Ext h h') : Ext h0 h' := ⟨Nat.le_trans E.1 E'.1, fun a c r => E'.2 a c (E.2 a c r)⟩
theorem Ext.refl (h : Heap) : Ext h h := ⟨Nat.le_refl _, fun _ _ r => r⟩
theorem Ext.wrNew {h0 h h' : Heap} {a : Addr} {sl : Nat} {v : Value} (E : Ext h0 h) (Wq : Wr h h' a sl v) (q : h0.size ≤ a) : Ext h0 h' := Ext.keepNew E (Keep.of_wr Wq) (allS q all0)
theorem Ext.toKeep {h h' : Heap} (E : Ext h h') (wl : List Addr) : Keep h h' wl := (Keep.refl h wl).ext E
end W
end Jvm.Pilot.@@N@@
/- laws to paste: Road.backV, Road.codOf (cut by pick.py; bodies as the Statement names them) -/
namespace Jvm.Pilot.@@N@@
namespace StrChars
open Jvm Sem ClassFile Op Lib Jvm.Stand Jvm.Free.XT Jvm.Free.ALB Jvm.Free.JM Jvm.Free
open Jvm.Lib.Cold (StaticIs)
/-- a char array whose places are chars -/
def Ch (a : Addr) (A : Cell) (U : State) : Prop := Arr .char a A U ∧ Typed .char A
theorem Ch.mv {a : Addr} {A : Cell} {U U' : State} (h : Ch a A U) (hal : U.vm.Alike U'.vm) (hh : U'.heap = U.heap) : Ch a A U' := ⟨h.1.mv hal hh, h.2⟩
theorem Ch.keep {a : Addr} {A : Cell} {U U' : State} (h : Ch a A U) (hal : U.vm.Alike U'.vm) (hk : U'.heap[a]? = some A) : Ch a A U' := ⟨h.1.keep hal hk, h.2⟩
/-- what place i of a char[]'s cell holds -/
def cv (A : Cell) (i : Nat) : Int32 := match A.slots[i]? with | some (.int x) => x | _ => 0
theorem Ch.get {a : Addr} {A : Cell} {U : State} (h : Ch a A U) {i : Nat} (hi : i < A.slots.size) : A.slots[i]? = some (.int (cv A i)) := by
  have e := Array.getElem?_eq_getElem hi
  have f := h.2 i _ e
  unfold cv; rw [e]
  generalize A.slots[i] = v at f
  cases v <;> simp [fits] at f ⊢
/-- the byte that i2b leaves of a char -/
def lo8 (x : Int32) : Int32 := x.toInt8.toInt32
theorem fits_lo8 (y : Int32) : fits .byte (.int (lo8 y)) = true := by
  have h1 := y.toInt8.le_toInt
  have h2 := y.toInt8.toInt_lt
  simp only [lo8, fits, Bool.and_eq_true, decide_eq_true_eq, Int32.le_iff_toInt_le, Int8.toInt_toInt32, show (-128 : Int32).toInt = -128 from by decide, show (127 : Int32).toInt = 127 from by decide]
  omega
/-- A' is A but that each place j of lo .. hi - 1 holds f j -/
def Laid (A A' : Cell) (lo hi : Nat) (f : Nat → Value) : Prop := A'.cls = A.cls ∧ A'.vm = A.vm ∧ A'.slots.size = A.slots.size ∧ ∀ i, A'.slots[i]? = if lo ≤ i ∧ i < hi then some (f i) else A.slots[i]?
theorem Laid.zero (A : Cell) (lo : Nat) (f : Nat → Value) : Laid A A lo (lo + 0) f := ⟨rfl, rfl, rfl, fun i => by rw [if_neg (by omega)]⟩
theorem Laid.step {A Ak : Cell} {lo k : Nat} {f : Nat → Value} {v : Value} (h : Laid A Ak lo k f) (hlo : lo ≤ k) (hk : k < Ak.slots.size) (hv : v = f k) : Laid A (Ak.setSlot k v) lo (k + 1) f := by
  refine ⟨h.1, h.2.1, by simpa [Cell.setSlot] using h.2.2.1, fun i => ?_⟩
  by_cases e : k = i
  · subst e; rw [Cell.slots_setSlot_self v hk, if_pos (by omega), hv]
  · rw [Cell.slots_setSlot_ne v e, h.2.2.2 i]
    by_cases q : lo ≤ i ∧ i < k
    · rw [if_pos q, if_pos (by omega)]
    · rw [if_neg q, if_neg (by omega)]
def U16 : String := "java/lang/StringUTF16"
namespace Cmp5
def yN : MethodName := ⟨"java/lang/StringUTF16", "compress", "([CI[BII)I"⟩
abbrev yB : ByteArray := jdk_52_method_21_code
theorem d0 : decode yB 0 = .ok (.iconst 0, 1) := by decide +kernel
theorem d1 : decode yB 1 = .ok (.istore 5, 2) := by decide +kernel
theorem d3 : decode yB 3 = .ok (.iload 5, 2) := by decide +kernel
theorem d5 : decode yB 5 = .ok (.iload 4, 2) := by decide +kernel
theorem d7 : decode yB 7 = .ok (.if_icmp (.ge) 37, 3) := by decide +kernel
theorem d10 : decode yB 10 = .ok (.aload_n 0, 1) := by decide +kernel
theorem d11 : decode yB 11 = .ok (.iload_n 1, 1) := by decide +kernel
theorem d12 : decode yB 12 = .ok (.caload, 1) := by decide +kernel
theorem d13 : decode yB 13 = .ok (.istore 6, 2) := by decide +kernel
theorem d15 : decode yB 15 = .ok (.iload 6, 2) := by decide +kernel
theorem d17 : decode yB 17 = .ok (.sipush 255, 3) := by decide +kernel
theorem d20 : decode yB 20 = .ok (.if_icmp (.le) 6, 3) := by decide +kernel
theorem d26 : decode yB 26 = .ok (.aload_n 2, 1) := by decide +kernel
theorem d27 : decode yB 27 = .ok (.iload_n 3, 1) := by decide +kernel
theorem d28 : decode yB 28 = .ok (.iload 6, 2) := by decide +kernel
theorem d30 : decode yB 30 = .ok (.i2b, 1) := by decide +kernel
theorem d31 : decode yB 31 = .ok (.bastore, 1) := by decide +kernel
theorem d32 : decode yB 32 = .ok (.iinc 1 1, 3) := by decide +kernel
theorem d35 : decode yB 35 = .ok (.iinc 3 1, 3) := by decide +kernel
theorem d38 : decode yB 38 = .ok (.iinc 5 1, 3) := by decide +kernel
theorem d41 : decode yB 41 = .ok (.goto (-38), 3) := by decide +kernel
theorem d44 : decode yB 44 = .ok (.iload 4, 2) := by decide +kernel
theorem d46 : decode yB 46 = .ok (.ireturn, 1) := by decide +kernel
def site : List Cond := []
def tab : Cond := tabOf yN yB 7 (some .int) site
def P (b : Addr) (A : Cell) (d : Addr) (B : Cell) (o q len : Nat) (args : Array Value) (s : State) : Prop := args = #[.ref b, .int (Int32.ofNat o), .ref d, .int (Int32.ofNat q), .int (Int32.ofNat len)] ∧ Ch b A s ∧ Arr .byte d B s ∧ b ≠ d ∧ o + len ≤ A.slots.size ∧ q + len ≤ B.slots.size ∧ ∀ i, i < len → ¬ 255 < cv A (o + i)
def E (b : Addr) (A : Cell) (d : Addr) (B : Cell) (o q len : Nat) (r : Option Value) (s u : State) : Prop := r = some (.int (Int32.ofNat len)) ∧ ∃ B', Put d B' s u ∧ Laid B B' q (q + len) (fun j => Value.int (lo8 (cv A (o + (j - q)))))
/-- no char of the range above 255: len; the places written hold each char's low byte -/
theorem law (l : Launch) (b : Addr) (A : Cell) (d : Addr) (B : Cell) (o q len : Nat) : Law l yN 5 5 0 0 yB 7 (some .int) site (P b A d B o q len) (E b A d B o q len) (copyLocs d q len) 0 0 := by
  refine Law.of_walk (plainFor_of_name (by decide +kernel)) (by decide +kernel) (by decide +kernel) (by decide) (fun _ _ h => by rw [h.1]; rfl) (fun _ U U' hal hh h => ⟨h.1, h.2.1.mv hal hh, h.2.2.1.mv hal hh, h.2.2.2⟩) (fun r U U' V V' h1 hal h2 h => ⟨h.1, h.2.elim fun B' q => ⟨B', q.1.mv h1 h2, q.2⟩⟩) ?_
  intro p e s m args below meth c s₁ X0 hexec hbytes hml hret hlk hnm hown hh0 W hP
  obtain ⟨rfl, hA, hB, hne, l1, l2, hp⟩ := hP
  have c1 : Steps p.tables e below (s₁.setTop (entryFrame m #[.ref b, .int (Int32.ofNat o), .ref d, .int (Int32.ofNat q), .int (Int32.ofNat len)] 7)) (s₁.setTop (mkF m 0 #[.val (.ref b), .val (.int (Int32.ofNat o)), .val (.ref d), .val (.int (Int32.ofNat q)), .val (.int (Int32.ofNat len)), .unset, .unset] [])) := entry rfl
  have hA0 := hA.1.mv X0.warmed.alike hh0
  have hB0 := hB.mv X0.warmed.alike hh0
  have a31 := hA.1.2.2.2
  have c2 : Steps p.tables e below (s₁.setTop (entryFrame m #[.ref b, .int (Int32.ofNat o), .ref d, .int (Int32.ofNat q), .int (Int32.ofNat len)] 7)) (s₁.setTop (mkF m 3 #[.val (.ref b), .val (.int (Int32.ofNat o)), .val (.ref d), .val (.int (Int32.ofNat q)), .val (.int (Int32.ofNat len)), .val (.int 0), .unset] [])) := c1.trans (by
    refine iconstV X0.here hexec rfl 0 (hb hbytes d0) (by decide) ?_
    refine XS.istore X0.here hexec rfl (hb hbytes d1) rfl rfl ?_
    exact Steps.refl _)
  have loop : ∀ (r i : Nat), i + r = len → ∀ (z : Slot), (z = .unset ∨ ∃ w, z = .val w ∧ w.category = 1) → ∀ (Tl : State) (Bk : Cell), Stand p l e { frames := 0, locals := 0, cells := 0, slots := 0 } s m #[.ref b, .int (Int32.ofNat o), .ref d, .int (Int32.ofNat q), .int (Int32.ofNat len)] below meth c Tl ([] ++ copyLocs d q i) 0 0 → Put d Bk s₁ Tl → Laid B Bk q (q + i) (fun j => Value.int (lo8 (cv A (o + (j - q))))) →
      Steps p.tables e below (s₁.setTop (entryFrame m #[.ref b, .int (Int32.ofNat o), .ref d, .int (Int32.ofNat q), .int (Int32.ofNat len)] 7)) (Tl.setTop (mkF m 3 #[.val (.ref b), .val (.int (Int32.ofNat (o + i))), .val (.ref d), .val (.int (Int32.ofNat (q + i))), .val (.int (Int32.ofNat len)), .val (.int (Int32.ofNat i)), z] [])) → ∃ (T' : State) (B' : Cell) (z' : Slot), Stand p l e { frames := 0, locals := 0, cells := 0, slots := 0 } s m #[.ref b, .int (Int32.ofNat o), .ref d, .int (Int32.ofNat q), .int (Int32.ofNat len)] below meth c T' ([] ++ copyLocs d q len) 0 0 ∧ Put d B' s₁ T' ∧ Laid B B' q (q + len) (fun j => Value.int (lo8 (cv A (o + (j - q))))) ∧
      Steps p.tables e below (s₁.setTop (entryFrame m #[.ref b, .int (Int32.ofNat o), .ref d, .int (Int32.ofNat q), .int (Int32.ofNat len)] 7)) (T'.setTop (mkF m 3 #[.val (.ref b), .val (.int (Int32.ofNat (o + len))), .val (.ref d), .val (.int (Int32.ofNat (q + len))), .val (.int (Int32.ofNat len)), .val (.int (Int32.ofNat len)), z'] [])) := by
    intro r
    induction r with
    | zero =>
      intro i hi z hz Tl Bk Xl pl fl cl
      have hil : i = len := by omega
      rw [hil] at Xl fl cl
      exact ⟨Tl, Bk, z, Xl, pl, fl, cl⟩
    | succ r ih =>
      intro i hi z hz Tl Bk Xl pl fl cl
      have all := X0.warmed.alike.symm.trans Xl.warmed.alike
      have hAl := hA0.keep all (pl.other hne hA0.1)
      have hBk := hB0.like all pl.1 fl.1 fl.2.1 fl.2.2.1
      have hlt : q + i < Bk.slots.size := by rw [fl.2.2.1]; omega
      have c3 : Steps p.tables e below (s₁.setTop (entryFrame m #[.ref b, .int (Int32.ofNat o), .ref d, .int (Int32.ofNat q), .int (Int32.ofNat len)] 7)) (Tl.setTop (mkF m 12 #[.val (.ref b), .val (.int (Int32.ofNat (o + i))), .val (.ref d), .val (.int (Int32.ofNat (q + i))), .val (.int (Int32.ofNat len)), .val (.int (Int32.ofNat i)), z] [.int (Int32.ofNat (o + i)), .ref b])) := cl.trans (by
        refine XS.iload Xl.here hexec rfl (hb hbytes d3) rfl ?_
        refine XS.iload Xl.here hexec rfl (hb hbytes d5) rfl ?_
        refine XS.icmpNo Xl.here hexec rfl (hb hbytes d7) rfl (ii_ge_f (lt32 (by omega) (by omega))) ?_
        refine XS.aloadN Xl.here hexec rfl (hb hbytes d10) rfl rfl ?_
        refine XS.iloadN Xl.here hexec rfl (hb hbytes d11) rfl ?_
        exact Steps.refl _)
      have c4 : Steps p.tables e below (s₁.setTop (entryFrame m #[.ref b, .int (Int32.ofNat o), .ref d, .int (Int32.ofNat q), .int (Int32.ofNat len)] 7)) (Tl.setTop (mkF m 13 #[.val (.ref b), .val (.int (Int32.ofNat (o + i))), .val (.ref d), .val (.int (Int32.ofNat (q + i))), .val (.int (Int32.ofNat len)), .val (.int (Int32.ofNat i)), z] [.int (cv A (o + i))])) := c3.trans (by
        refine Xl.aget hexec hAl rfl (hA.get (i := o + i) (by omega)) rfl rfl (hb hbytes d12) ?_
        exact Steps.refl _)
      have c5 : Steps p.tables e below (s₁.setTop (entryFrame m #[.ref b, .int (Int32.ofNat o), .ref d, .int (Int32.ofNat q), .int (Int32.ofNat len)] 7)) (Tl.setTop (mkF m 15 #[.val (.ref b), .val (.int (Int32.ofNat (o + i))), .val (.ref d), .val (.int (Int32.ofNat (q + i))), .val (.int (Int32.ofNat len)), .val (.int (Int32.ofNat i)), .val (.int (cv A (o + i)))] [])) := c4.trans (by
        refine XS.istoreS Xl.here hexec rfl (hb hbytes d13) rfl rfl hz ?_
        exact Steps.refl _)
      have c6 : Steps p.tables e below (s₁.setTop (entryFrame m #[.ref b, .int (Int32.ofNat o), .ref d, .int (Int32.ofNat q), .int (Int32.ofNat len)] 7)) (Tl.setTop (mkF m 31 #[.val (.ref b), .val (.int (Int32.ofNat (o + i))), .val (.ref d), .val (.int (Int32.ofNat (q + i))), .val (.int (Int32.ofNat len)), .val (.int (Int32.ofNat i)), .val (.int (cv A (o + i)))] [.int (lo8 (cv A (o + i))), .int (Int32.ofNat (q + i)), .ref d])) := c5.trans (by
        refine XS.iload Xl.here hexec rfl (hb hbytes d15) rfl ?_
        refine sipushV Xl.here hexec rfl 255 (hb hbytes d17) (by decide) ?_
        refine XS.icmpYes Xl.here hexec rfl (pc0 := 20) rfl (hb hbytes d20) rfl (ii_le_t (hp i (by omega))) (by decide) rfl ?_
        refine XS.aloadN Xl.here hexec rfl (hb hbytes d26) rfl rfl ?_
        refine XS.iloadN Xl.here hexec rfl (hb hbytes d27) rfl ?_
        refine XS.iload Xl.here hexec rfl (hb hbytes d28) rfl ?_
        refine i2b Xl.here hexec rfl (hb hbytes d30) rfl ?_
        exact Steps.refl _)
      obtain ⟨T7, X7, p7, st7⟩ := Xl.aput hexec hBk rfl hlt rfl (fits_lo8 (cv A (o + i))) (g := (mkF m 31 #[.val (.ref b), .val (.int (Int32.ofNat (o + i))), .val (.ref d), .val (.int (Int32.ofNat (q + i))), .val (.int (Int32.ofNat len)), .val (.int (Int32.ofNat i)), .val (.int (cv A (o + i)))] [.int (lo8 (cv A (o + i))), .int (Int32.ofNat (q + i)), .ref d])) rfl (rest := []) rfl (hb hbytes d31)
      have c8 : Steps p.tables e below (s₁.setTop (entryFrame m #[.ref b, .int (Int32.ofNat o), .ref d, .int (Int32.ofNat q), .int (Int32.ofNat len)] 7)) (T7.setTop (mkF m 32 #[.val (.ref b), .val (.int (Int32.ofNat (o + i))), .val (.ref d), .val (.int (Int32.ofNat (q + i))), .val (.int (Int32.ofNat len)), .val (.int (Int32.ofNat i)), .val (.int (cv A (o + i)))] [])) := c6.trans (st7 _ (Steps.refl _))
      have c9 : Steps p.tables e below (s₁.setTop (entryFrame m #[.ref b, .int (Int32.ofNat o), .ref d, .int (Int32.ofNat q), .int (Int32.ofNat len)] 7)) (T7.setTop (mkF m 3 #[.val (.ref b), .val (.int (Int32.ofNat (o + i) + 1)), .val (.ref d), .val (.int (Int32.ofNat (q + i) + 1)), .val (.int (Int32.ofNat len)), .val (.int (Int32.ofNat i + 1)), .val (.int (cv A (o + i)))] [])) := c8.trans (by
        refine iincV X7.here hexec rfl 1 (hb hbytes d32) (by decide) rfl rfl ?_
        refine iincV X7.here hexec rfl 1 (hb hbytes d35) (by decide) rfl rfl ?_
        refine iincV X7.here hexec rfl 1 (hb hbytes d38) (by decide) rfl rfl ?_
        refine XS.goto X7.here hexec rfl (pc0 := 41) rfl (hb hbytes d41) (by decide) rfl ?_
        exact Steps.refl _)
      have c10 : Steps p.tables e below (s₁.setTop (entryFrame m #[.ref b, .int (Int32.ofNat o), .ref d, .int (Int32.ofNat q), .int (Int32.ofNat len)] 7)) (T7.setTop (mkF m 3 #[.val (.ref b), .val (.int (Int32.ofNat (o + (i + 1)))), .val (.ref d), .val (.int (Int32.ofNat (q + (i + 1)))), .val (.int (Int32.ofNat len)), .val (.int (Int32.ofNat (i + 1))), .val (.int (cv A (o + i)))] [])) := by
        have := c9
        rw [succ32, succ32, succ32] at this
        exact this
      exact ih (i + 1) (by omega) _ (Or.inr ⟨_, rfl, rfl⟩) T7 _ (by rw [copyLocs_step, ← List.append_assoc]; exact X7) (pl.trans p7) (fl.step (by omega) hlt (by simp)) c10
  obtain ⟨T9, B9, z9, X9, p9, f9, g9⟩ := loop len 0 (by omega) .unset (Or.inl rfl) s₁ B (by simpa [copyLocs] using X0) ⟨hB0.1, fun _ _ => rfl, rfl⟩ (Laid.zero _ _ _) c2
  have c11 : Steps p.tables e below (s₁.setTop (entryFrame m #[.ref b, .int (Int32.ofNat o), .ref d, .int (Int32.ofNat q), .int (Int32.ofNat len)] 7)) (T9.setTop (mkF m 46 #[.val (.ref b), .val (.int (Int32.ofNat (o + len))), .val (.ref d), .val (.int (Int32.ofNat (q + len))), .val (.int (Int32.ofNat len)), .val (.int (Int32.ofNat len)), z9] [.int (Int32.ofNat len)])) := g9.trans (by
    refine XS.iload X9.here hexec rfl (hb hbytes d3) rfl ?_
    refine XS.iload X9.here hexec rfl (hb hbytes d5) rfl ?_
    refine XS.icmpYes X9.here hexec rfl (pc0 := 7) rfl (hb hbytes d7) rfl (ii_ge_t (nlt32 (by omega) (Nat.le_refl _))) (by decide) rfl ?_
    refine XS.iload X9.here hexec rfl (hb hbytes d44) rfl ?_
    exact Steps.refl _)
  exact ⟨T9, some (.int (Int32.ofNat len)), _, _, _, X9, by simp, rfl, rfl, (fun h => by cases h), ⟨rfl, B9, p9.from hh0, f9⟩, fun fs hl => c11.trans (X9.ireturnOut hexec hret rfl (Or.inl rfl) (hb hbytes d46) hl)⟩
end Cmp5
namespace Cmp3
def yN : MethodName := ⟨"java/lang/StringUTF16", "compress", "([CII)[B"⟩
abbrev yB : ByteArray := jdk_52_method_16_code
theorem d0 : decode yB 0 = .ok (.iload_n 2, 1) := by decide +kernel
theorem d1 : decode yB 1 = .ok (.newarray .byte, 2) := by decide +kernel
theorem d3 : decode yB 3 = .ok (.astore_n 3, 1) := by decide +kernel
theorem d4 : decode yB 4 = .ok (.aload_n 0, 1) := by decide +kernel
theorem d5 : decode yB 5 = .ok (.iload_n 1, 1) := by decide +kernel
theorem d6 : decode yB 6 = .ok (.aload_n 3, 1) := by decide +kernel
theorem d7 : decode yB 7 = .ok (.iconst 0, 1) := by decide +kernel
theorem d8 : decode yB 8 = .ok (.iload_n 2, 1) := by decide +kernel
theorem d9 : decode yB 9 = .ok (.invokestatic 115, 3) := by decide +kernel
theorem d12 : decode yB 12 = .ok (.istore 4, 2) := by decide +kernel
theorem d14 : decode yB 14 = .ok (.iload 4, 2) := by decide +kernel
theorem d16 : decode yB 16 = .ok (.iload_n 2, 1) := by decide +kernel
theorem d17 : decode yB 17 = .ok (.if_icmp (.eq) 40, 3) := by decide +kernel
theorem d57 : decode yB 57 = .ok (.aload_n 3, 1) := by decide +kernel
theorem d58 : decode yB 58 = .ok (.areturn, 1) := by decide +kernel
def site : List Cond := [.arrayClass .byte, Cmp5.tab] ++ staticW U16 115 Cmp5.yN
def tab : Cond := tabOf yN yB 6 (some (.array .byte)) site
def P (b : Addr) (A : Cell) (o len : Nat) (args : Array Value) (s : State) : Prop := args = #[.ref b, .int (Int32.ofNat o), .int (Int32.ofNat len)] ∧ Ch b A s ∧ o + len ≤ A.slots.size ∧ len ≤ 536870912 ∧ ∀ i, i < len → ¬ 255 < cv A (o + i)
def E (b : Addr) (A : Cell) (o len : Nat) (r : Option Value) (s u : State) : Prop := NewArr .byte "[B" len (fun j => .int (lo8 (cv A (o + j)))) r s u ∧ u.heap.size = s.heap.size + 1
/-- no char of the range above 255: a new byte[] of their low bytes -/
theorem law (l : Launch) (b : Addr) (A : Cell) (o len : Nat) : Law l yN 3 3 1 18 yB 6 (some (.array .byte)) site (P b A o len) (E b A o len) [] 1 len := by
  refine Law.of_walk (plainFor_of_name (by decide +kernel)) (by decide +kernel) (by decide +kernel) (by decide) (fun _ _ h => by rw [h.1]; rfl) (fun _ U U' hal hh h => ⟨h.1, h.2.1.mv hal hh, h.2.2⟩) (fun r U U' V V' h1 hal h2 h => ⟨NewArr.mv r U U' V V' h1 hal h2 h.1, by rw [h1, h2]; exact h.2⟩) ?_
  intro p e s m args below meth c s₁ X0 hexec hbytes hml hret hlk hnm hown hh0 W hP
  obtain ⟨rfl, hA, l1, l2, hp⟩ := hP
  have a31 := hA.1.2.2.2
  have c1 : Steps p.tables e below (s₁.setTop (entryFrame m #[.ref b, .int (Int32.ofNat o), .int (Int32.ofNat len)] 6)) (s₁.setTop (mkF m 0 #[.val (.ref b), .val (.int (Int32.ofNat o)), .val (.int (Int32.ofNat len)), .unset, .unset, .unset] [])) := entry rfl
  have c2 : Steps p.tables e below (s₁.setTop (entryFrame m #[.ref b, .int (Int32.ofNat o), .int (Int32.ofNat len)] 6)) (s₁.setTop (mkF m 1 #[.val (.ref b), .val (.int (Int32.ofNat o)), .val (.int (Int32.ofNat len)), .unset, .unset, .unset] [.int (Int32.ofNat len)])) := c1.trans (by
    refine XS.iloadN X0.here hexec rfl (hb hbytes d0) rfl ?_
    exact Steps.refl _)
  obtain ⟨T3, B3, X3, ba3, bs3, bv3, bh3, bf3, st3⟩ := X0.anew hexec (atype := .byte) (wk W (.arrayClass .byte)) rfl (by show len * 1 ≤ _; omega) (by omega) (g := (mkF m 1 #[.val (.ref b), .val (.int (Int32.ofNat o)), .val (.int (Int32.ofNat len)), .unset, .unset, .unset] [.int (Int32.ofNat len)])) rfl (hb hbytes d1) (rest := []) rfl (Nat.le_refl _) (by show 0 + len ≤ len; omega)
  rw [hh0] at ba3 st3
  have kp3 : XT.Kept s T3 := (XT.Kept.of_eq hh0).push bh3
  have hA3 := hA.keep X3.warmed.alike (kp3 _ _ hA.1.1)
  have hne : b ≠ s.heap.size := hA.1.ne
  have c4 : Steps p.tables e below (s₁.setTop (entryFrame m #[.ref b, .int (Int32.ofNat o), .int (Int32.ofNat len)] 6)) (T3.setTop (mkF m 3 #[.val (.ref b), .val (.int (Int32.ofNat o)), .val (.int (Int32.ofNat len)), .unset, .unset, .unset] [.ref s.heap.size])) := c2.trans (st3 _ (Steps.refl _))
  have c5 : Steps p.tables e below (s₁.setTop (entryFrame m #[.ref b, .int (Int32.ofNat o), .int (Int32.ofNat len)] 6)) (T3.setTop (mkF m 9 #[.val (.ref b), .val (.int (Int32.ofNat o)), .val (.int (Int32.ofNat len)), .val (.ref s.heap.size), .unset, .unset] [.int (Int32.ofNat len), .int 0, .ref s.heap.size, .int (Int32.ofNat o), .ref b])) := c4.trans (by
    refine XS.astoreN X3.here hexec rfl (hb hbytes d3) rfl rfl rfl ?_
    refine XS.aloadN X3.here hexec rfl (hb hbytes d4) rfl rfl ?_
    refine XS.iloadN X3.here hexec rfl (hb hbytes d5) rfl ?_
    refine XS.aloadN X3.here hexec rfl (hb hbytes d6) rfl rfl ?_
    refine iconstV X3.here hexec rfl 0 (hb hbytes d7) (by decide) ?_
    refine XS.iloadN X3.here hexec rfl (hb hbytes d8) rfl ?_
    exact Steps.refl _)
  obtain ⟨v6, T6, X6, E6, g6⟩ := X3.callS hexec (Cmp5.law l b A s.heap.size B3 o 0 len) hown (wks W (staticW U16 115 Cmp5.yN)) (wk W Cmp5.tab) (W := 0) (Nat.le_of_ble_eq_true rfl) (Nat.le_of_ble_eq_true rfl) (Nat.le_refl _) (by show 0 + len + 0 ≤ len; omega) (g := (mkF m 9 #[.val (.ref b), .val (.int (Int32.ofNat o)), .val (.int (Int32.ofNat len)), .val (.ref s.heap.size), .unset, .unset] [.int (Int32.ofNat len), .int (Int32.ofNat 0), .ref s.heap.size, .int (Int32.ofNat o), .ref b])) rfl (by rw [hml]; rfl) c5 (argsL := [.ref b, .int (Int32.ofNat o), .ref s.heap.size, .int (Int32.ofNat 0), .int (Int32.ofNat len)]) (rest := []) rfl rfl (by show 2 * 0 + 0 ≤ _; decide) (hb hbytes d9) (⟨rfl, hA3, ba3, hne, l1, by rw [bs3]; simp, hp⟩)
  obtain ⟨rfl, B6, p6, f6⟩ := E6
  have c7 : Steps p.tables e below (s₁.setTop (entryFrame m #[.ref b, .int (Int32.ofNat o), .int (Int32.ofNat len)] 6)) (T6.setTop (mkF m 12 #[.val (.ref b), .val (.int (Int32.ofNat o)), .val (.int (Int32.ofNat len)), .val (.ref s.heap.size), .unset, .unset] [.int (Int32.ofNat len)])) := g6
  have c8 : Steps p.tables e below (s₁.setTop (entryFrame m #[.ref b, .int (Int32.ofNat o), .int (Int32.ofNat len)] 6)) (T6.setTop (mkF m 58 #[.val (.ref b), .val (.int (Int32.ofNat o)), .val (.int (Int32.ofNat len)), .val (.ref s.heap.size), .val (.int (Int32.ofNat len)), .unset] [.ref s.heap.size])) := c7.trans (by
    refine XS.istore X6.here hexec rfl (hb hbytes d12) rfl rfl ?_
    refine XS.iload X6.here hexec rfl (hb hbytes d14) rfl ?_
    refine XS.iloadN X6.here hexec rfl (hb hbytes d16) rfl ?_
    refine XS.icmpYes X6.here hexec rfl (pc0 := 17) rfl (hb hbytes d17) rfl (ii_eq_t rfl) (by decide) rfl ?_
    refine XS.aloadN X6.here hexec rfl (hb hbytes d57) rfl rfl ?_
    exact Steps.refl _)
  have X8 := X6.wide (L' := []) (cells' := 1) (slots' := len) (fun x hx hlt => by
    simp only [List.nil_append, copyLocs, List.mem_map, List.mem_range] at hx
    obtain ⟨i, -, rfl⟩ := hx
    exact absurd hlt (Nat.lt_irrefl _)) (Nat.le_refl _) (by omega)
  exact ⟨T6, some (.ref s.heap.size), _, _, _, X8, rfl, rfl, rfl, (fun h => by cases h), ⟨⟨rfl, B6, ba3.like (X3.warmed.alike.symm.trans X6.warmed.alike) p6.1 f6.1 f6.2.1 f6.2.2.1, f6.2.1.trans bv3, by rw [X6.warmed.alike.findClass, f6.1]; exact bf3, by rw [f6.2.2.1, bs3]; simp, fun j hj => by rw [f6.2.2.2 j, if_pos (by omega)]; rfl, kp3.put p6 (Nat.le_refl _)⟩, by rw [p6.2.2, bh3, hh0]; simp⟩, fun fs hl => c8.trans (X8.areturnOut hexec rfl hret rfl (hb hbytes d58) hl)⟩
end Cmp3
namespace CodL
def yN : MethodName := ⟨"java/lang/StringUTF16", "coderFromArrayLen", "([BI)B"⟩
abbrev yB : ByteArray := jdk_52_method_15_code
theorem d0 : decode yB 0 = .ok (.iload_n 1, 1) := by decide +kernel
theorem d1 : decode yB 1 = .ok (.aload_n 0, 1) := by decide +kernel
theorem d2 : decode yB 2 = .ok (.arraylength, 1) := by decide +kernel
theorem d3 : decode yB 3 = .ok (.isub, 1) := by decide +kernel
theorem d4 : decode yB 4 = .ok (.bipush 31, 2) := by decide +kernel
theorem d6 : decode yB 6 = .ok (.iushr, 1) := by decide +kernel
theorem d7 : decode yB 7 = .ok (.i2b, 1) := by decide +kernel
theorem d8 : decode yB 8 = .ok (.ireturn, 1) := by decide +kernel
def site : List Cond := []
def tab : Cond := tabOf yN yB 2 (some .byte) site
def P (d : Addr) (B : Cell) (args : Array Value) (s : State) : Prop := args = #[.ref d, .int (Int32.ofNat B.slots.size)] ∧ Arr .byte d B s
def E (r : Option Value) (s u : State) : Prop := XT.PureE (some (.int 0)) r s u
/-- an array as long as the number of chars: LATIN1 -/
theorem law (l : Launch) (d : Addr) (B : Cell) : Law l yN 2 2 0 0 yB 2 (some .byte) site (P d B) E [] 0 0 := by
  refine Law.of_walk (plainFor_of_name (by decide +kernel)) (by decide +kernel) (by decide +kernel) (by decide) (fun _ _ h => by rw [h.1]; rfl) (fun _ U U' hal hh h => ⟨h.1, h.2.mv hal hh⟩) (fun r U U' V V' h1 hal h2 h => XT.PureE.mv r U U' V V' h1 hal h2 h) ?_
  intro p e s m args below meth c s₁ X0 hexec hbytes hml hret hlk hnm hown hh0 W hP
  obtain ⟨rfl, hB⟩ := hP
  have hB0 := hB.mv X0.warmed.alike hh0
  have c1 : Steps p.tables e below (s₁.setTop (entryFrame m #[.ref d, .int (Int32.ofNat B.slots.size)] 2)) (s₁.setTop (mkF m 0 #[.val (.ref d), .val (.int (Int32.ofNat B.slots.size))] [])) := entry rfl
  have c2 : Steps p.tables e below (s₁.setTop (entryFrame m #[.ref d, .int (Int32.ofNat B.slots.size)] 2)) (s₁.setTop (mkF m 2 #[.val (.ref d), .val (.int (Int32.ofNat B.slots.size))] [.ref d, .int (Int32.ofNat B.slots.size)])) := c1.trans (by
    refine XS.iloadN X0.here hexec rfl (hb hbytes d0) rfl ?_
    refine XS.aloadN X0.here hexec rfl (hb hbytes d1) rfl rfl ?_
    exact Steps.refl _)
  have c3 : Steps p.tables e below (s₁.setTop (entryFrame m #[.ref d, .int (Int32.ofNat B.slots.size)] 2)) (s₁.setTop (mkF m 8 #[.val (.ref d), .val (.int (Int32.ofNat B.slots.size))] [.int (lo8 (ushr (Int32.ofNat B.slots.size - Int32.ofNat B.slots.size) 31))])) := c2.trans (by
    refine X0.alen hexec hB0 rfl rfl (hb hbytes d2) ?_
    refine XS.isub X0.here hexec rfl (hb hbytes d3) rfl ?_
    refine bipushV X0.here hexec rfl 31 (hb hbytes d4) (by decide) ?_
    refine iushr X0.here hexec rfl (hb hbytes d6) rfl ?_
    refine i2b X0.here hexec rfl (hb hbytes d7) rfl ?_
    exact Steps.refl _)
  have e0 : lo8 (ushr (Int32.ofNat B.slots.size - Int32.ofNat B.slots.size) 31) = 0 := by rw [Int32.sub_self]; decide
  rw [e0] at c3
  exact ⟨s₁, some (.int 0), _, _, _, X0, rfl, rfl, rfl, (fun h => by cases h), ⟨rfl, hh0⟩, fun fs hl => c3.trans (X0.ireturnOut hexec hret rfl (Or.inr (Or.inr (Or.inl rfl))) (hb hbytes d8) hl)⟩
end CodL
/-- the String at a is Latin-1 over a new byte[] (the heap's one new cell): the low bytes of the len chars of A from o on; every cell but a is kept -/
def Got (a : Addr) (D : Cell) (fV fC : Field) (A : Cell) (o len : Nat) (r : Option Value) (s u : State) : Prop := r = none ∧ ∃ D' V : Cell, Blank "java/lang/String" a D' u ∧ Same D D' [fV.slot, fC.slot] ∧ D'.slots[fV.slot]? = some (.ref s.heap.size) ∧ D'.slots[fC.slot]? = some (.int 0) ∧ Arr .byte s.heap.size V u ∧ V.vm = .none ∧ u.vm.findClass "[B" = some V.cls ∧ V.slots.size = len ∧ (∀ j, j < len → V.slots[j]? = some (.int (lo8 (cv A (o + j))))) ∧ (∀ (y : Addr) (c : Cell), y ≠ a → s.heap[y]? = some c → u.heap[y]? = some c) ∧ u.heap.size = s.heap.size + 1
theorem Got.mv {a : Addr} {D A : Cell} {fV fC : Field} {o len : Nat} : ∀ r (U U' V V' : State), U'.heap = U.heap → V.vm.Alike V'.vm → V'.heap = V.heap → Got a D fV fC A o len r U V → Got a D fV fC A o len r U' V' :=
  fun r U U' V V' h1 hal h2 ⟨e0, D', X, a1, a2, a3, a4, a5, a6, a7, a8, a9, a10, a11⟩ => ⟨e0, D', X, a1.mv hal h2, a2, by rw [h1]; exact a3, a4, by rw [h1]; exact a5.mv hal h2, a6, by rw [hal.findClass]; exact a7, a8, a9, by rw [h1, h2]; exact a10, by rw [h1, h2]; exact a11⟩
namespace New4
def yN : MethodName := ⟨"java/lang/String", "<init>", "([CIILjava/lang/Void;)V"⟩
abbrev yB : ByteArray := jdk_42_method_149_code
theorem d0 : decode yB 0 = .ok (.aload_n 0, 1) := by decide +kernel
theorem d1 : decode yB 1 = .ok (.invokespecial 1, 3) := by decide +kernel
theorem d4 : decode yB 4 = .ok (.iload_n 3, 1) := by decide +kernel
theorem d5 : decode yB 5 = .ok (.ifCond (.ne) 22, 3) := by decide +kernel
theorem d27 : decode yB 27 = .ok (.getstatic 38, 3) := by decide +kernel
theorem d30 : decode yB 30 = .ok (.ifCond (.eq) 28, 3) := by decide +kernel
theorem d33 : decode yB 33 = .ok (.aload_n 1, 1) := by decide +kernel
theorem d34 : decode yB 34 = .ok (.iload_n 2, 1) := by decide +kernel
theorem d35 : decode yB 35 = .ok (.iload_n 3, 1) := by decide +kernel
theorem d36 : decode yB 36 = .ok (.invokestatic 177, 3) := by decide +kernel
theorem d39 : decode yB 39 = .ok (.astore 5, 2) := by decide +kernel
theorem d41 : decode yB 41 = .ok (.aload_n 0, 1) := by decide +kernel
theorem d42 : decode yB 42 = .ok (.aload 5, 2) := by decide +kernel
theorem d44 : decode yB 44 = .ok (.iload_n 3, 1) := by decide +kernel
theorem d45 : decode yB 45 = .ok (.invokestatic 47, 3) := by decide +kernel
theorem d48 : decode yB 48 = .ok (.putfield 15, 3) := by decide +kernel
theorem d51 : decode yB 51 = .ok (.aload_n 0, 1) := by decide +kernel
theorem d52 : decode yB 52 = .ok (.aload 5, 2) := by decide +kernel
theorem d54 : decode yB 54 = .ok (.putfield 9, 3) := by decide +kernel
theorem d57 : decode yB 57 = .ok (.return_, 1) := by decide +kernel
def site : List Cond := [.fieldLink "java/lang/String" 38 "java/lang/String" "COMPACT_STRINGS" "Z", Cmp3.tab, CodL.tab, .laysFinal "java/lang/String" "java/lang/String" "value" "[B", .fieldLink "java/lang/String" 9 "java/lang/String" "value" "[B", .laysFinal "java/lang/String" "java/lang/String" "coder" "B", .fieldLink "java/lang/String" 15 "java/lang/String" "coder" "B"] ++ objW "java/lang/String" 1 ++ staticW "java/lang/String" 177 Cmp3.yN ++ staticW "java/lang/String" 47 CodL.yN
def tab : Cond := tabOf yN yB 6 none site
def P (a : Addr) (D : Cell) (fV fC : Field) (b : Addr) (A : Cell) (z : Int32) (o len : Nat) (args : Array Value) (s : State) : Prop := args = #[.ref a, .ref b, .int (Int32.ofNat o), .int (Int32.ofNat len), .null] ∧ Blank "java/lang/String" a D s ∧ Found "java/lang/String" "value" "[B" fV s ∧ Found "java/lang/String" "coder" "B" fC s ∧ Ch b A s ∧ StaticIs s "java/lang/String" "COMPACT_STRINGS" "Z" (.int z) ∧ ¬ z = 0 ∧ 0 < len ∧ o + len ≤ A.slots.size ∧ len ≤ 536870912 ∧ ∀ i, i < len → ¬ 255 < cv A (o + i)
def E (a : Addr) (D : Cell) (fV fC : Field) (A : Cell) (o len : Nat) (r : Option Value) (s u : State) : Prop := Got a D fV fC A o len r s u
/-- len > 0, no char of the range above 255: a Latin-1 String of their low bytes -/
theorem law (l : Launch) (a : Addr) (D : Cell) (fV fC : Field) (b : Addr) (A : Cell) (z : Int32) (o len : Nat) : Law l yN 5 4 2 35 yB 6 none site (P a D fV fC b A z o len) (E a D fV fC A o len) [⟨a, fC.slot⟩, ⟨a, fV.slot⟩] 1 len := by
  refine Law.of_walk (plainFor_of_name (by decide +kernel)) (by decide +kernel) (by decide +kernel) (by decide) (fun _ _ h => by rw [h.1]; rfl) (fun _ U U' hal hh h => ⟨h.1, h.2.1.mv hal hh, h.2.2.1.al hal, h.2.2.2.1.al hal, h.2.2.2.2.1.mv hal hh, h.2.2.2.2.2.1.there hal hh, h.2.2.2.2.2.2⟩) (fun r U U' V V' h1 hal h2 h => Got.mv r U U' V V' h1 hal h2 h) ?_
  intro p e s m args below meth c s₁ X0 hexec hbytes hml hret hlk hnm hown hh0 W hP
  obtain ⟨rfl, hB, f1, f2, hA, s1, hz, l0, l1, l2, hp⟩ := hP
  have a31 := hA.1.2.2.2
  have c1 : Steps p.tables e below (s₁.setTop (entryFrame m #[.ref a, .ref b, .int (Int32.ofNat o), .int (Int32.ofNat len), .null] 6)) (s₁.setTop (mkF m 0 #[.val (.ref a), .val (.ref b), .val (.int (Int32.ofNat o)), .val (.int (Int32.ofNat len)), .val .null, .unset] [])) := entry rfl
  have c2 : Steps p.tables e below (s₁.setTop (entryFrame m #[.ref a, .ref b, .int (Int32.ofNat o), .int (Int32.ofNat len), .null] 6)) (s₁.setTop (mkF m 1 #[.val (.ref a), .val (.ref b), .val (.int (Int32.ofNat o)), .val (.int (Int32.ofNat len)), .val .null, .unset] [.ref a])) := c1.trans (by
    refine XS.aloadN X0.here hexec rfl (hb hbytes d0) rfl rfl ?_
    exact Steps.refl _)
  obtain ⟨T3, X3, q3, st3⟩ := X0.oinit hexec hown (wks W (objW "java/lang/String" 1)) (g := (mkF m 1 #[.val (.ref a), .val (.ref b), .val (.int (Int32.ofNat o)), .val (.int (Int32.ofNat len)), .val .null, .unset] [.ref a])) rfl (by rw [hml]; rfl) (rest := []) rfl (hb hbytes d1) (W := 0) (by show 2 * 0 + 0 ≤ _; decide) (Nat.le_of_ble_eq_true rfl) (Nat.le_of_ble_eq_true rfl)
  have hh3 := q3.trans hh0
  have c4 : Steps p.tables e below (s₁.setTop (entryFrame m #[.ref a, .ref b, .int (Int32.ofNat o), .int (Int32.ofNat len), .null] 6)) (T3.setTop (mkF m 27 #[.val (.ref a), .val (.ref b), .val (.int (Int32.ofNat o)), .val (.int (Int32.ofNat len)), .val .null, .unset] [])) := (c2.trans (st3 _ (Steps.refl _))).trans (by
    refine XS.iloadN X3.here hexec rfl (hb hbytes d4) rfl ?_
    refine XS.ifYes X3.here hexec rfl (pc0 := 5) rfl (hb hbytes d5) rfl (i0_ne_t (nz32 (by omega) l0)) (by decide) rfl ?_
    exact Steps.refl _)
  obtain ⟨T5, X5, q5, st5⟩ := X3.sget hexec hown (wk W (.fieldLink "java/lang/String" 38 "java/lang/String" "COMPACT_STRINGS" "Z")) s1 (fun _ _ h => by rw [hh3]; exact h) (g := (mkF m 27 #[.val (.ref a), .val (.ref b), .val (.int (Int32.ofNat o)), .val (.int (Int32.ofNat len)), .val .null, .unset] [])) rfl (hb hbytes d27)
  have hh5 := q5.trans hh3
  have c6 : Steps p.tables e below (s₁.setTop (entryFrame m #[.ref a, .ref b, .int (Int32.ofNat o), .int (Int32.ofNat len), .null] 6)) (T5.setTop (mkF m 30 #[.val (.ref a), .val (.ref b), .val (.int (Int32.ofNat o)), .val (.int (Int32.ofNat len)), .val .null, .unset] [.int z])) := c4.trans (st5 _ (Steps.refl _))
  have c7 : Steps p.tables e below (s₁.setTop (entryFrame m #[.ref a, .ref b, .int (Int32.ofNat o), .int (Int32.ofNat len), .null] 6)) (T5.setTop (mkF m 36 #[.val (.ref a), .val (.ref b), .val (.int (Int32.ofNat o)), .val (.int (Int32.ofNat len)), .val .null, .unset] [.int (Int32.ofNat len), .int (Int32.ofNat o), .ref b])) := c6.trans (by
    refine XS.ifNo X5.here hexec rfl (hb hbytes d30) rfl (i0_eq_f hz) ?_
    refine XS.aloadN X5.here hexec rfl (hb hbytes d33) rfl rfl ?_
    refine XS.iloadN X5.here hexec rfl (hb hbytes d34) rfl ?_
    refine XS.iloadN X5.here hexec rfl (hb hbytes d35) rfl ?_
    exact Steps.refl _)
  obtain ⟨v8, T8, X8, E8, g8⟩ := X5.callS hexec (Cmp3.law l b A o len) hown (wks W (staticW "java/lang/String" 177 Cmp3.yN)) (wk W Cmp3.tab) (W := 0) (Nat.le_of_ble_eq_true rfl) (Nat.le_of_ble_eq_true rfl) (Nat.le_refl _) (by show 0 + len ≤ len; omega) (g := (mkF m 36 #[.val (.ref a), .val (.ref b), .val (.int (Int32.ofNat o)), .val (.int (Int32.ofNat len)), .val .null, .unset] [.int (Int32.ofNat len), .int (Int32.ofNat o), .ref b])) rfl (by rw [hml]; rfl) c7 (argsL := [.ref b, .int (Int32.ofNat o), .int (Int32.ofNat len)]) (rest := []) rfl rfl (by show 2 * 0 + 0 ≤ _; decide) (hb hbytes d36) (⟨rfl, hA.mv X5.warmed.alike hh5, l1, l2, hp⟩)
  obtain ⟨e8, z8⟩ := E8
  obtain ⟨rfl, N, n1, n2, n3, n4, n5, n6⟩ := NewArr.mv _ T5 s _ _ hh5.symm (Vm.Alike.refl _) rfl e8
  rw [hh5] at z8
  have hB1 := hB.keep X8.warmed.alike (n6 _ _ hB.1)
  have hne : s.heap.size ≠ a := (Nat.ne_of_lt (Array.getElem?_eq_some_iff.mp hB.1).1).symm
  have c9 : Steps p.tables e below (s₁.setTop (entryFrame m #[.ref a, .ref b, .int (Int32.ofNat o), .int (Int32.ofNat len), .null] 6)) (T8.setTop (mkF m 39 #[.val (.ref a), .val (.ref b), .val (.int (Int32.ofNat o)), .val (.int (Int32.ofNat len)), .val .null, .unset] [.ref s.heap.size])) := g8
  have c10 : Steps p.tables e below (s₁.setTop (entryFrame m #[.ref a, .ref b, .int (Int32.ofNat o), .int (Int32.ofNat len), .null] 6)) (T8.setTop (mkF m 45 #[.val (.ref a), .val (.ref b), .val (.int (Int32.ofNat o)), .val (.int (Int32.ofNat len)), .val .null, .val (.ref s.heap.size)] [.int (Int32.ofNat N.slots.size), .ref s.heap.size, .ref a])) := by
    have hc : Steps p.tables e below (s₁.setTop (entryFrame m #[.ref a, .ref b, .int (Int32.ofNat o), .int (Int32.ofNat len), .null] 6)) (T8.setTop (mkF m 45 #[.val (.ref a), .val (.ref b), .val (.int (Int32.ofNat o)), .val (.int (Int32.ofNat len)), .val .null, .val (.ref s.heap.size)] [.int (Int32.ofNat len), .ref s.heap.size, .ref a])) := c9.trans (by
      refine XS.astore X8.here hexec rfl (hb hbytes d39) rfl rfl rfl ?_
      refine XS.aloadN X8.here hexec rfl (hb hbytes d41) rfl rfl ?_
      refine XS.aload X8.here hexec rfl (hb hbytes d42) rfl rfl ?_
      refine XS.iloadN X8.here hexec rfl (hb hbytes d44) rfl ?_
      exact Steps.refl _)
    rw [n4]; exact hc
  obtain ⟨v11, T11, X11, E11, g11⟩ := X8.callS hexec (CodL.law l s.heap.size N) hown (wks W (staticW "java/lang/String" 47 CodL.yN)) (wk W CodL.tab) (W := 1) (Nat.le_of_ble_eq_true rfl) (Nat.le_of_ble_eq_true rfl) (Nat.le_refl _) (by show 0 + len + 0 ≤ len; omega) (g := (mkF m 45 #[.val (.ref a), .val (.ref b), .val (.int (Int32.ofNat o)), .val (.int (Int32.ofNat len)), .val .null, .val (.ref s.heap.size)] [.int (Int32.ofNat N.slots.size), .ref s.heap.size, .ref a])) rfl (by rw [hml]; rfl) c10 (argsL := [.ref s.heap.size, .int (Int32.ofNat N.slots.size)]) (rest := [.ref a]) rfl rfl (by show 2 * 0 + (1 + 0) ≤ _; decide) (hb hbytes d45) (⟨rfl, n1⟩)
  obtain ⟨rfl, q11⟩ := E11
  have hB11 := hB1.mv (X8.warmed.alike.symm.trans X11.warmed.alike) q11
  have c12 : Steps p.tables e below (s₁.setTop (entryFrame m #[.ref a, .ref b, .int (Int32.ofNat o), .int (Int32.ofNat len), .null] 6)) (T11.setTop (mkF m 48 #[.val (.ref a), .val (.ref b), .val (.int (Int32.ofNat o)), .val (.int (Int32.ofNat len)), .val .null, .val (.ref s.heap.size)] [.int 0, .ref a])) := g11
  obtain ⟨T13, X13, p13, bl13, sl13, st13⟩ := X11.finit hexec hown (wk W (.fieldLink "java/lang/String" 15 "java/lang/String" "coder" "B")) (Or.inr ⟨_, (wk W (.laysFinal "java/lang/String" "java/lang/String" "coder" "B"))⟩) (Or.inl ⟨rfl, hnm⟩) f2 (Or.inl rfl) hB11 (t := .byte) (by decide +kernel) rfl (g := (mkF m 48 #[.val (.ref a), .val (.ref b), .val (.int (Int32.ofNat o)), .val (.int (Int32.ofNat len)), .val .null, .val (.ref s.heap.size)] [.int 0, .ref a])) rfl (rest := []) rfl (hb hbytes d48)
  have c14 : Steps p.tables e below (s₁.setTop (entryFrame m #[.ref a, .ref b, .int (Int32.ofNat o), .int (Int32.ofNat len), .null] 6)) (T13.setTop (mkF m 54 #[.val (.ref a), .val (.ref b), .val (.int (Int32.ofNat o)), .val (.int (Int32.ofNat len)), .val .null, .val (.ref s.heap.size)] [.ref s.heap.size, .ref a])) := (c12.trans (st13 _ (Steps.refl _))).trans (by
    refine XS.aloadN X13.here hexec rfl (hb hbytes d51) rfl rfl ?_
    refine XS.aload X13.here hexec rfl (hb hbytes d52) rfl rfl ?_
    exact Steps.refl _)
  obtain ⟨T15, X15, p15, bl15, sl15, st15⟩ := X13.finit hexec hown (wk W (.fieldLink "java/lang/String" 9 "java/lang/String" "value" "[B")) (Or.inr ⟨_, (wk W (.laysFinal "java/lang/String" "java/lang/String" "value" "[B"))⟩) (Or.inl ⟨rfl, hnm⟩) f1 (Or.inl rfl) bl13 (t := (.array .byte)) (by decide +kernel) rfl (g := (mkF m 54 #[.val (.ref a), .val (.ref b), .val (.int (Int32.ofNat o)), .val (.int (Int32.ofNat len)), .val .null, .val (.ref s.heap.size)] [.ref s.heap.size, .ref a])) rfl (rest := []) rfl (hb hbytes d54)
  have c16 : Steps p.tables e below (s₁.setTop (entryFrame m #[.ref a, .ref b, .int (Int32.ofNat o), .int (Int32.ofNat len), .null] 6)) (T15.setTop (mkF m 57 #[.val (.ref a), .val (.ref b), .val (.int (Int32.ofNat o)), .val (.int (Int32.ofNat len)), .val .null, .val (.ref s.heap.size)] [])) := c14.trans (st15 _ (Steps.refl _))
  have ap := apart (Or.inr ⟨_, (wk W (.laysFinal "java/lang/String" "java/lang/String" "value" "[B"))⟩) (Or.inr ⟨_, (wk W (.laysFinal "java/lang/String" "java/lang/String" "coder" "B"))⟩) f1 f2 (t₁ := .array .byte) (t₂ := .byte) (by decide +kernel) (by decide +kernel) (by decide)
  have al := X8.warmed.alike.symm.trans X15.warmed.alike
  have n7 : T11.heap[s.heap.size]? = some N := by rw [q11]; exact n1.1
  exact ⟨T15, none, _, _, _, X15, by simp, rfl, by omega, (fun _ => rfl), ⟨rfl, _, N, bl15, ((Same.refl D _).set _ (by simp)).set _ (by simp), sl15, (Cell.slots_setSlot_ne _ ap).trans sl13, n1.keep al (p15.other hne (p13.other hne n7)), n2, by rw [al.findClass]; exact n3, n4, n5, fun y c h1 h2 => p15.other h1 (p13.other h1 (by rw [q11]; exact n6 y c h2)), by rw [p15.2.2, p13.2.2, q11]; exact z8⟩, fun fs hl => c16.trans (X15.returnOut hexec hret (hb hbytes d57) hl)⟩
end New4
namespace New1
def yN : MethodName := ⟨"java/lang/String", "<init>", "([C)V"⟩
abbrev yB : ByteArray := jdk_42_method_3_code
theorem d0 : decode yB 0 = .ok (.aload_n 0, 1) := by decide +kernel
theorem d1 : decode yB 1 = .ok (.aload_n 1, 1) := by decide +kernel
theorem d2 : decode yB 2 = .ok (.iconst 0, 1) := by decide +kernel
theorem d3 : decode yB 3 = .ok (.aload_n 1, 1) := by decide +kernel
theorem d4 : decode yB 4 = .ok (.arraylength, 1) := by decide +kernel
theorem d5 : decode yB 5 = .ok (.aconst_null, 1) := by decide +kernel
theorem d6 : decode yB 6 = .ok (.invokespecial 27, 3) := by decide +kernel
theorem d9 : decode yB 9 = .ok (.return_, 1) := by decide +kernel
def site : List Cond := [New4.tab] ++ initW "java/lang/String" 27 New4.yN
def tab : Cond := tabOf yN yB 2 none site
def P (a : Addr) (D : Cell) (fV fC : Field) (b : Addr) (A : Cell) (z : Int32) (args : Array Value) (s : State) : Prop := args = #[.ref a, .ref b] ∧ Blank "java/lang/String" a D s ∧ Found "java/lang/String" "value" "[B" fV s ∧ Found "java/lang/String" "coder" "B" fC s ∧ Ch b A s ∧ StaticIs s "java/lang/String" "COMPACT_STRINGS" "Z" (.int z) ∧ ¬ z = 0 ∧ 0 < A.slots.size ∧ A.slots.size ≤ 536870912 ∧ ∀ i, i < A.slots.size → ¬ 255 < cv A i
def E (a : Addr) (D : Cell) (fV fC : Field) (A : Cell) (r : Option Value) (s u : State) : Prop := Got a D fV fC A 0 A.slots.size r s u
/-- new String(chars), not empty, no char above 255: a Latin-1 String of their low bytes -/
theorem law (l : Launch) (a : Addr) (D : Cell) (fV fC : Field) (b : Addr) (A : Cell) (z : Int32) : Law l yN 2 1 3 52 yB 2 none site (P a D fV fC b A z) (E a D fV fC A) [⟨a, fC.slot⟩, ⟨a, fV.slot⟩] 1 A.slots.size := by
  refine Law.of_walk (plainFor_of_name (by decide +kernel)) (by decide +kernel) (by decide +kernel) (by decide) (fun _ _ h => by rw [h.1]; rfl) (fun _ U U' hal hh h => ⟨h.1, h.2.1.mv hal hh, h.2.2.1.al hal, h.2.2.2.1.al hal, h.2.2.2.2.1.mv hal hh, h.2.2.2.2.2.1.there hal hh, h.2.2.2.2.2.2⟩) (fun r U U' V V' h1 hal h2 h => Got.mv r U U' V V' h1 hal h2 h) ?_
  intro p e s m args below meth c s₁ X0 hexec hbytes hml hret hlk hnm hown hh0 W hP
  obtain ⟨rfl, hB, f1, f2, hA, s1, hz, l0, l2, hp⟩ := hP
  have c1 : Steps p.tables e below (s₁.setTop (entryFrame m #[.ref a, .ref b] 2)) (s₁.setTop (mkF m 0 #[.val (.ref a), .val (.ref b)] [])) := entry rfl
  have c2 : Steps p.tables e below (s₁.setTop (entryFrame m #[.ref a, .ref b] 2)) (s₁.setTop (mkF m 6 #[.val (.ref a), .val (.ref b)] [.null, .int (Int32.ofNat A.slots.size), .int 0, .ref b, .ref a])) := c1.trans (by
    refine XS.aloadN X0.here hexec rfl (hb hbytes d0) rfl rfl ?_
    refine XS.aloadN X0.here hexec rfl (hb hbytes d1) rfl rfl ?_
    refine iconstV X0.here hexec rfl 0 (hb hbytes d2) (by decide) ?_
    refine XS.aloadN X0.here hexec rfl (hb hbytes d3) rfl rfl ?_
    refine X0.alen hexec (hA.1.mv X0.warmed.alike hh0) rfl rfl (hb hbytes d4) ?_
    refine XS.aconstNull X0.here hexec rfl (hb hbytes d5) ?_
    exact Steps.refl _)
  obtain ⟨v3, T3, X3, E3, g3⟩ := X0.callN hexec (New4.law l a D fV fC b A z 0 A.slots.size) rfl hown (wks W (initW "java/lang/String" 27 New4.yN)) (W New4.tab (by simp only [site, List.mem_cons, List.mem_append, true_or, or_true])) (W := 0) (Nat.le_of_ble_eq_true rfl) (Nat.le_of_ble_eq_true rfl) (Nat.le_refl _) (by show 0 + A.slots.size ≤ A.slots.size; omega) (g := (mkF m 6 #[.val (.ref a), .val (.ref b)] [.null, .int (Int32.ofNat A.slots.size), .int (Int32.ofNat 0), .ref b, .ref a])) rfl (by rw [hml]; rfl) c2 (argsL := [.ref b, .int (Int32.ofNat 0), .int (Int32.ofNat A.slots.size), .null]) (rest := []) rfl rfl (by show 2 * 0 + 0 ≤ _; decide) (hb hbytes d6) (⟨rfl, hB.mv X0.warmed.alike hh0, f1.al X0.warmed.alike, f2.al X0.warmed.alike, hA.mv X0.warmed.alike hh0, s1.there X0.warmed.alike hh0, hz, l0, by omega, l2, fun i hi => by rw [Nat.zero_add]; exact hp i hi⟩)
  have e0 := Got.mv _ s₁ s _ _ hh0.symm (Vm.Alike.refl _) rfl E3
  obtain rfl := e0.1
  have c4 : Steps p.tables e below (s₁.setTop (entryFrame m #[.ref a, .ref b] 2)) (T3.setTop (mkF m 9 #[.val (.ref a), .val (.ref b)] [])) := g3
  exact ⟨T3, none, _, _, _, X3, by simp, rfl, by omega, (fun _ => rfl), e0, fun fs hl => c4.trans (X3.returnOut hexec hret (hb hbytes d9) hl)⟩
theorem pays {l : Launch} {R : Room} {p : Program} {e : Env} {below : List Frame} {s : State} {sargs : Array Value} {len W : Nat} (a : Addr) (D : Cell) (fV fC : Field) (b : Addr) (A : Cell) (z : Int32) (htab : tab.before sargs s = true) (hfr : 4 ≤ R.frames) (hlo : W + 65 ≤ R.locals) :
    Back l R p e below s sargs yN len W (fun A₁ a₁ => A₁.cells + 1 ≤ R.cells ∧ A₁.slots + A.slots.size ≤ R.slots ∧ P a D fV fC b A z a₁ A₁.U) (fun A₁ _ v₁ B₁ => E a D fV fC A v₁ A₁.U B₁.U ∧ B₁.locs = A₁.locs ++ [⟨a, fC.slot⟩, ⟨a, fV.slot⟩] ∧ B₁.cells = A₁.cells + 1 ∧ B₁.slots = A₁.slots + A.slots.size) :=
  (law l a D fV fC b A z).pays htab hfr (by omega)
end New1
end StrChars
namespace StrChars.Road
open Jvm Sem ClassFile Op Lib Jvm.Stand Jvm.Free Jvm.Free.XT
open Jvm.Lib.Cold (StaticIs)
abbrev ST : String := "java/lang/String"
/-- every table word that New1's law asks, flat -/
abbrev words : List Jvm.Cond := [.code New1.yN New1.yB 2 none, .initialized ST, .methodLink ST 27 New4.yN, .instanceMethod New4.yN,
  .code New4.yN New4.yB 6 none, .fieldLink ST 38 ST "COMPACT_STRINGS" "Z", .laysFinal ST ST "value" "[B", .fieldLink ST 9 ST "value" "[B", .laysFinal ST ST "coder" "B", .fieldLink ST 15 ST "coder" "B",
  .methodLink ST 1 Lib.objectInit, .instanceMethod Lib.objectInit, .code Lib.objectInit ⟨#[0xb1]⟩ 1 none, .methodLink ST 177 Cmp3.yN, .static Cmp3.yN, .methodLink ST 47 CodL.yN, .static CodL.yN,
  .code Cmp3.yN Cmp3.yB 6 (some (.array .byte)), .initialized U16, .arrayClass .byte, .methodLink U16 115 Cmp5.yN, .static Cmp5.yN, .code Cmp5.yN Cmp5.yB 7 (some .int), .code CodL.yN CodL.yB 2 (some .byte)]
theorem tab_of {a : Array Value} {s : State} (h : ∀ w ∈ words, w.before a s = true) : New1.tab.before a s = true := by
  have h5 : Cmp5.tab.before a s = true := unparts (wk h (.code Cmp5.yN Cmp5.yB 7 (some .int))) (wks h (.initialized Cmp5.yN.cls :: Cmp5.site))
  have hc : CodL.tab.before a s = true := unparts (wk h (.code CodL.yN CodL.yB 2 (some .byte))) (wks h (.initialized CodL.yN.cls :: CodL.site))
  have q5 : ∀ w ∈ Cmp5.tab :: words, w.before a s = true := fun w hw => (List.mem_cons.mp hw).elim (fun e => e ▸ h5) (h w)
  have h3 : Cmp3.tab.before a s = true := unparts (wk q5 (.code Cmp3.yN Cmp3.yB 6 (some (.array .byte)))) (wks q5 (.initialized Cmp3.yN.cls :: Cmp3.site))
  have q3 : ∀ w ∈ Cmp3.tab :: CodL.tab :: words, w.before a s = true := fun w hw => (List.mem_cons.mp hw).elim (fun e => e ▸ h3) fun hw => (List.mem_cons.mp hw).elim (fun e => e ▸ hc) (h w)
  have h4 : New4.tab.before a s = true := unparts (wk q3 (.code New4.yN New4.yB 6 none)) (wks q3 (.initialized New4.yN.cls :: New4.site))
  have q4 : ∀ w ∈ New4.tab :: words, w.before a s = true := fun w hw => (List.mem_cons.mp hw).elim (fun e => e ▸ h4) (h w)
  exact unparts (wk q4 (.code New1.yN New1.yB 2 none)) (wks q4 (.initialized New1.yN.cls :: New1.site))
/-- the words ride from the start Z to the walk's own state -/
theorem moved {Z s : State} {a0 args : Array Value} (hZ : Z.Warmed39 s.vm) (hw : ∀ d ∈ words, d.before a0 Z = true) : ∀ d ∈ words, d.before args s = true := fun d hd => by
  have q := hw d hd
  have t : ∀ d ∈ words, d = .arrayClass .byte ∨ (d.onTables && d.keepsFace) = true := by decide +kernel
  rcases t d hd with rfl | t
  · exact RoadKit.mvA hZ q
  · exact RoadKit.mv hZ q t
/-- WHAT COMES BACK, over the tables of the start Z: h the heap at the call, h' behind it -/
def Q (Z : State) (x : Addr) (A : Cell) (h : Heap) (v : Option Value) (h' : Heap) (L : List Loc) : Prop := v = none ∧ (∀ y ∈ L, y.base = x) ∧ RoadKit.Keep h h' [x] ∧ h'.size = h.size + 1 ∧ RoadKit.Exa Z h' x ST ∧ RoadKit.Fld Z h' x ST "value" "[B" (.ref h.size) ∧ RoadKit.Fld Z h' x ST "coder" "B" (.int 0) ∧
  (∃ V : Cell, RoadKit.Arr Z h' h.size V .byte ∧ V.vm = .none ∧ Z.vm.findClass "[B" = some V.cls ∧ V.slots.size = A.slots.size ∧ ∀ j, j < A.slots.size → V.slots[j]? = some (.int (lo8 (cv A j)))) ∧
  ∀ (O n d : String) (w : Value), RoadKit.Fld Z h x O n d w → RoadKit.slotOf Z O n d ≠ RoadKit.slotOf Z ST "value" "[B" → RoadKit.slotOf Z O n d ≠ RoadKit.slotOf Z ST "coder" "B" → RoadKit.Fld Z h' x O n d w
/-- **new String(chars) AT A CALL, IN THE ROAD'S FORM**: for specialBack behind newO: x the fresh String, b the char[] with the cell A -/
theorem back {p : Program} {l : Launch} {e : Env} {R : Room} {s : State} {args : Array Value} {below : List Frame} {len W : Nat} {Z : State} {a0 : Array Value} {h : Heap} (hZ : Z.Warmed39 s.vm) (hw : ∀ d ∈ words, d.before a0 Z = true) {kI : Nat} (wi : (Jvm.Cond.instantiable ST kI).before a0 Z = true)
    {x b : Addr} {A : Cell} {z : Int32} {v0 c0 : Value} (E : RoadKit.Exa Z h x ST) (V : RoadKit.Fld Z h x ST "value" "[B" v0) (C : RoadKit.Fld Z h x ST "coder" "B" c0) (K : RoadKit.Arr Z h b A .char) (hty : Typed .char A) (S : RoadKit.Sta Z h ST "COMPACT_STRINGS" "Z" (.int z)) (hz : ¬ z = 0)
    (l0 : 0 < A.slots.size) (l2 : A.slots.size ≤ 536870912) (hp : ∀ i, i < A.slots.size → ¬ 255 < cv A i) (hfr : 4 ≤ R.frames) (hlo : W + 65 ≤ R.locals) :
    Back l R p e below s args New1.yN len W (fun P a => a = #[.ref x, .ref b] ∧ P.U.heap = h ∧ P.cells + 1 ≤ R.cells ∧ P.slots + A.slots.size ≤ R.slots)
      (fun P _ v B => ∃ L, Q Z x A h v B.U.heap L ∧ B.locs = P.locs ++ L ∧ B.cells = P.cells + 1 ∧ B.slots = P.slots + A.slots.size) := by
  intro m meth c P g ig mk a X hg hsize hdg hW hn hp'
  obtain ⟨rfl, rfl, r1, r2⟩ := hp'
  have al : Z.vm.Alike P.U.vm := hZ.alike.trans X.warmed.alike
  obtain ⟨D, cfV, kV, iV, fV, hD, gV, stV, knV, obV, asV, slV⟩ := id V
  obtain ⟨D', cfC, kC, iC, fC, hD', gC, stC, -, -, asC, slC⟩ := id C
  cases hD.symm.trans hD'
  obtain ⟨D2, kD, e1, e2, e3, e4, e5⟩ := id E
  cases hD.symm.trans e1
  obtain ⟨c2, k2, i1, i2, i3, -⟩ := Cond.instantiable_spec wi
  cases e2.symm.trans i1
  cases e3.symm.trans i2
  obtain ⟨kU, u1, u2⟩ := al.2.2 _ _ e3
  have hB : Blank ST x D P.U := ⟨hD, ⟨knV, fun q hq => by rw [hq] at obV; cases obV⟩, by rw [al.findClass]; exact e2, kU, u1, by rw [u2]; exact i3, by rw [u2]; exact e5 i3⟩
  have F1 : Found ST "value" "[B" fV P.U := ⟨SBG.found_only al ⟨cfV, kV, iV, gV⟩, stV⟩
  have F2 : Found ST "coder" "B" fC P.U := ⟨SBG.found_only al ⟨cfC, kC, iC, gC⟩, stC⟩
  have hA : Ch b A P.U := ⟨⟨K.1, State.isArrayOf_alike al K.2.1, K.2.2, by omega⟩, hty⟩
  have hS : StaticIs P.U ST "COMPACT_STRINGS" "Z" (.int z) := by
    obtain ⟨cfS, iS, kS, fS, st, cS, t1, t2, t3, t4, t5, t6, t7⟩ := S
    exact StaticIs.there (s := { Z with heap := P.U.heap }) ⟨cfS, iS, kS, fS, st, cS, t1, t2, t3, t4, t5, (fun q => by rw [q] at t6; cases t6), t7⟩ al rfl
  obtain ⟨v, B, X', ⟨⟨hv, E', V', q1, q2, q3, q4, q5, q6, q7, q8, q9, q10, q11⟩, hl, hc, hs⟩, st⟩ := New1.pays x D fV fC b A z (tab_of (moved hZ hw)) hfr hlo m meth c P g ig mk _ X hg hsize hdg hW hn ⟨r1, r2, rfl, hB, F1, F2, hA, hS, hz, l0, l2, hp⟩
  have al' : Z.vm.Alike B.U.vm := hZ.alike.trans X'.warmed.alike
  have hsz : E'.slots.size = D.slots.size := by
    obtain ⟨-, -, -, kB, w1, w2, w3⟩ := q1
    obtain ⟨kB', y1, y2⟩ := al'.2.2 _ _ e3
    rw [q2.2.1] at w1
    cases w1.symm.trans y1
    rw [w3, e5 i3, y2]
  refine ⟨v, B, X', ⟨_, ⟨hv, ?_, ⟨by omega, fun y cy hy hn' => q10 y cy (by simpa using hn') hy, fun y cy hy => ?_⟩, q11, ⟨E', _, q1.1, by rw [q2.2.1]; exact e2, by rw [q2.2.1]; exact e3, by rw [q2.1]; exact obV, fun _ => by rw [hsz]; exact e5 i3⟩,
    ⟨E', cfV, kV, iV, fV, q1.1, gV, stV, by rw [q2.1]; exact knV, by rw [q2.1]; exact obV, by rw [q2.2.1]; exact asV, q3⟩, ⟨E', cfC, kC, iC, fC, q1.1, gC, stC, by rw [q2.1]; exact knV, by rw [q2.1]; exact obV, by rw [q2.2.1]; exact asC, q4⟩,
    ⟨V', ⟨q5.1, State.isArrayOf_alike al'.symm q5.2.1, q5.2.2.1⟩, q6, by rw [← al'.findClass]; exact q7, q8, fun j hj => by have := q9 j hj; rwa [Nat.zero_add] at this⟩, fun O n d w F n1 n2 => ?_⟩, hl, hc, hs⟩, st⟩
  · intro y hy
    simp only [List.mem_cons, List.not_mem_nil, or_false] at hy
    rcases hy with rfl | rfl <;> rfl
  · by_cases q : y = x
    · subst q
      cases hD.symm.trans hy
      exact ⟨E', q1.1, q2.2.1, q2.1, hsz⟩
    · exact ⟨cy, q10 y cy q hy, rfl, rfl, rfl⟩
  · obtain ⟨D3, cf, k, i, f, g1, g2, g3, g4, g5, g6, g7⟩ := F
    cases hD.symm.trans g1
    simp only [RoadKit.slotOf, g2, gV, gC, Option.map_some, Option.getD_some] at n1 n2
    exact ⟨E', cf, k, i, f, q1.1, g2, g3, by rw [q2.1]; exact g4, by rw [q2.1]; exact g5, by rw [q2.2.1]; exact g6, by rw [q2.2.2 f.slot (by simp [n1, n2])]; exact g7⟩
end StrChars.Road
namespace StrChars.Road
open Jvm Sem ClassFile Op Lib Jvm.Stand Jvm.Free Jvm.Free.XT
/-- WHAT COMES BACK, the byte[] as a list of values -/
def QA (Z : State) (x : Addr) (zn : Int32) (cs : List Int32) (h : Heap) (v : Option Value) (h' : Heap) (L : List Loc) : Prop := v = none ∧ (∀ y ∈ L, y.base = x) ∧ RoadKit.Keep h h' [x] ∧ h'.size = h.size + 1 ∧ RoadKit.Exa Z h' x ST ∧ RoadKit.Fld Z h' x ST "value" "[B" (.ref h.size) ∧ RoadKit.Fld Z h' x ST "coder" "B" (.int 0) ∧
  (∃ kb, Z.vm.findClass "[B" = some kb ∧ RoadKit.Arv Z h' h.size kb .byte zn (cs.map fun c => .int (lo8 c)) (.int 0)) ∧
  ∀ (O n d : String) (w : Value), RoadKit.Fld Z h x O n d w → RoadKit.slotOf Z O n d ≠ RoadKit.slotOf Z ST "value" "[B" → RoadKit.slotOf Z O n d ≠ RoadKit.slotOf Z ST "coder" "B" → RoadKit.Fld Z h' x O n d w
/-- **new String(chars) AT A CALL, THE ARRAYS AS LISTS**: the char[] at b holds cs, not empty, no char above 255 -/
theorem backArv {p : Program} {l : Launch} {e : Env} {R : Room} {s : State} {args : Array Value} {below : List Frame} {len W : Nat} {Z : State} {a0 : Array Value} {h : Heap} (hZ : Z.Warmed39 s.vm) (hw : ∀ d ∈ words, d.before a0 Z = true) {kI : Nat} (wi : (Jvm.Cond.instantiable ST kI).before a0 Z = true)
    {x b : Addr} {k : ClassId} {zn z : Int32} {cs : List Int32} {dv v0 c0 : Value} (E : RoadKit.Exa Z h x ST) (V : RoadKit.Fld Z h x ST "value" "[B" v0) (C : RoadKit.Fld Z h x ST "coder" "B" c0) (K : RoadKit.Arv Z h b k .char zn (cs.map Value.int) dv) (S : RoadKit.Sta Z h ST "COMPACT_STRINGS" "Z" (.int z)) (hz : ¬ z = 0)
    (hlen : zn.toNatClampNeg = cs.length) (h0 : 0 < cs.length) (hbig : cs.length ≤ 536870912) (hall : ∀ c ∈ cs, ¬ 255 < c) (hfr : 4 ≤ R.frames) (hlo : W + 65 ≤ R.locals) :
    Back l R p e below s args New1.yN len W (fun P a => a = #[.ref x, .ref b] ∧ P.U.heap = h ∧ P.cells + 1 ≤ R.cells ∧ P.slots + cs.length ≤ R.slots)
      (fun P _ v B => ∃ L, QA Z x zn cs h v B.U.heap L ∧ B.locs = P.locs ++ L ∧ B.cells = P.cells + 1 ∧ B.slots = P.slots + cs.length) := by
  obtain ⟨A, K1, K2, K3, K4, K5, K6⟩ := K
  have e : A.slots.size = cs.length := K3.trans hlen
  have hat : ∀ (i : Nat) (hi : i < cs.length), A.slots[i]? = some (.int cs[i]) := fun i hi => by rw [K5 i (by omega)]; simp [List.getD_eq_getElem?_getD, hi]
  have hcv : ∀ (i : Nat) (hi : i < cs.length), cv A i = cs[i] := fun i hi => by unfold cv; rw [hat i hi]
  have hty : Typed .char A := fun i v hv => by
    have hi : i < A.slots.size := (Array.getElem?_eq_some_iff.mp hv).1
    have q := K5 i hi
    rw [hv] at q
    rw [Option.some.inj q]
    exact K6 i hi
  refine Back.mono (back hZ hw wi E V C K1 hty S hz (by omega) (by omega) (fun i hi => by rw [hcv i (by omega)]; exact hall _ (List.getElem_mem _)) hfr hlo) (fun P a hp => ⟨hp.1, hp.2.1, hp.2.2.1, by rw [e]; exact hp.2.2.2⟩) (fun P a v B hp hq => ?_)
  obtain ⟨L, ⟨q1, q2, q3, q4, q5, q6, q7, ⟨V', v1, v2, v3, v4, v5⟩, q9⟩, hl, hc, hs⟩ := hq
  refine ⟨L, ⟨q1, q2, q3, q4, q5, q6, q7, ⟨V'.cls, v3, V', v1, rfl, by rw [v4, e, hlen], K4, fun i hi => ?_, fun i hi => ?_⟩, q9⟩, hl, hc, by rw [hs, e]⟩
  · have hi' : i < cs.length := by omega
    rw [v5 i (by omega), hcv i hi']; simp [List.getD_eq_getElem?_getD, hi']
  · have hi' : i < cs.length := by omega
    simp only [List.getD_eq_getElem?_getD, List.getElem?_map, List.getElem?_eq_getElem hi', Option.map_some, Option.getD_some]
    exact fits_lo8 _
end StrChars.Road
namespace StrChars.Road
open Jvm Sem ClassFile Op Lib Jvm.Stand Jvm.Free Jvm.Free.XT
/-- WHAT COMES BACK, in the writer's own shape -/
def QV (Z : State) (x : Addr) (N : Int32) (bs : List Int32) (h : Heap) (n0 : Nat) (v : Option Value) (h' : Heap) (L : List Loc) : Prop := v = none ∧ RoadKit.Fr n0 L ∧ RoadKit.Keep h h' [x] ∧ RoadKit.Exa Z h' x ST ∧ RoadKit.Fld Z h' x ST "coder" "B" (.int 0) ∧
  ∃ (t : Addr) (kb : ClassId), n0 ≤ t ∧ h.size ≤ t ∧ ¬ t = x ∧ RoadKit.Fld Z h' x ST "value" "[B" (.ref t) ∧ RoadKit.Arv Z h' t kb .byte N (bs.map Value.int) (.int 0)
/-- **new String(chars) AT A CALL, FOR THE WRITER**: a char[] of n known ints, each 0 to 255 -/
theorem backV {p : Program} {l : Launch} {e : Env} {R : Room} {s : State} {args : Array Value} {below : List Frame} {len W : Nat} {Z : State} {a0 : Array Value} {h : Heap} (hZ : Z.Warmed39 s.vm) (hw : ∀ d ∈ words, d.before a0 Z = true) {kI : Nat} (wi : (Jvm.Cond.instantiable ST kI).before a0 Z = true)
    {x b : Addr} {kC : ClassId} {cs bs : List Int32} {d v0 c0 : Value} {z N : Int32} {n n0 : Nat} (hx0 : n0 ≤ x) (hh0 : n0 ≤ h.size) (E : RoadKit.Exa Z h x ST) (V : RoadKit.Fld Z h x ST "value" "[B" v0) (C : RoadKit.Fld Z h x ST "coder" "B" c0) (K : RoadKit.Arv Z h b kC .char N (cs.map Value.int) d) (S : RoadKit.Sta Z h ST "COMPACT_STRINGS" "Z" (.int z)) (hz : ¬ z = 0)
    (hn : cs.length = n) (hN : N = Int32.ofNat n) (l0 : 0 < n) (l2 : n ≤ 4000) (hp : ∀ c ∈ cs, ¬ c < 0 ∧ ¬ (255 : Int32) < c) (hb : bs = cs.map (fun c => c.toInt8.toInt32)) (hfr : 4 ≤ R.frames) (hlo : W + 65 ≤ R.locals) :
    Back l R p e below s args (⟨"java/lang/String", "<init>", "([C)V"⟩ : MethodName) len W (fun P a => a = #[.ref x, .ref b] ∧ P.U.heap = h ∧ P.cells + 1 ≤ R.cells ∧ P.slots + n ≤ R.slots)
      (fun P _ v B => ∃ L, QV Z x N bs h n0 v B.U.heap L ∧ B.locs = P.locs ++ L ∧ B.cells = P.cells + 1 ∧ B.slots = P.slots + n) := by
  subst hn hN hb
  refine Back.mono (backArv hZ hw wi E V C K S hz (n32 (by omega)) l0 (by omega) (fun c hc => (hp c hc).2) hfr hlo) (fun P a hp => hp) (fun P a v B hp hq => ?_)
  obtain ⟨L, ⟨q1, q2, q3, q4, q5, q6, q7, ⟨kb, v1, v2⟩, q9⟩, hl, hc, hs⟩ := hq
  exact ⟨L, ⟨q1, fun y hy => by rw [q2 y hy]; exact hx0, q3, q5, q7, h.size, kb, hh0, Nat.le_refl _, Nat.ne_of_gt E.lt, q6, by rw [List.map_map]; exact v2⟩, hl, hc, hs⟩
end StrChars.Road
namespace StrChars
open Jvm Sem ClassFile Op Lib Jvm.Stand Jvm.Free.XT Jvm.Free.ALB Jvm.Free.JM Jvm.Free
open Jvm.Lib.Cold (StaticIs)
def hi8 (x : Int32) : Int32 := lo8 (x >>> ((8 : Int32) &&& 31))
end StrChars
namespace StrChars.Road
open Jvm Sem ClassFile Op Lib Jvm.Stand Jvm.Free Jvm.Free.XT
open Jvm.Lib.Cold (StaticIs)
/-- the bytes of the chars cs, low before high -/
def wideBytes : List Int32 → List Value
  | [] => []
  | c :: cs => .int (lo8 c) :: .int (hi8 c) :: wideBytes cs
/-- an array of N2 bytes vs codes the chars cs by the coder cd -/
def CodA (cs : List Int32) (cd N2 : Int32) (vs : List Value) : Prop := (cd = 0 ∧ N2 = Int32.ofNat cs.length ∧ vs = (cs.map fun c => Value.int (lo8 c)) ∧ ∀ c ∈ cs, ¬ 255 < c) ∨ (cd = 1 ∧ N2 = Int32.ofNat (2 * cs.length) ∧ vs = wideBytes cs ∧ ∃ c ∈ cs, 255 < c)
end StrChars.Road
namespace StrChars.Road
open Jvm Sem ClassFile Op Lib Jvm.Stand Jvm.Free Jvm.Free.XT
open Jvm.Lib.Cold (StaticIs)
/-- what backV says of its String, as the contracts of this text ask it: cs's low bytes, coder 0 -/
theorem codOf {cs : List Int32} {n : Nat} (hn : cs.length = n) (hb : ∀ c ∈ cs, ¬ 255 < c) : CodA cs 0 (Int32.ofNat n) ((cs.map lo8).map Value.int) := Or.inl ⟨rfl, by rw [hn], by simp [List.map_map, Function.comp_def], hb⟩
end StrChars.Road
end Jvm.Pilot.@@N@@
namespace Jvm.Pilot.@@N@@
namespace W
open Jvm Jvm.ClassFile Sem Op Lib Jvm.Free Jvm.Stand Jvm.LawKit Jvm.RoadKit Bundle
/-- x is a String of the chars cs -/
def Str (Z : State) (h : Heap) (x : Addr) (cs : List Int32) : Prop := ∃ (t : Addr) (kb : ClassId) (N cd : Int32) (vs : List Value), Exa Z h x "java/lang/String" ∧ Fld Z h x "java/lang/String" "value" "[B" (.ref t) ∧ Fld Z h x "java/lang/String" "coder" "B" (.int cd) ∧ Arv Z h t kb .byte N vs (.int 0) ∧ StrChars.Road.CodA cs cd N vs ∧ (∀ c ∈ cs, ¬ c < 0 ∧ ¬ (65535 : Int32) < c) ∧ cs.length ≤ 4000
theorem Str.ext {Z : State} {h h' : Heap} {x : Addr} {cs : List Int32} (S : Str Z h x cs) (E : Ext h h') : Str Z h' x cs := by
  obtain ⟨t, kb, N, cd, vs, a, b, c, d, r⟩ := S; exact ⟨t, kb, N, cd, vs, a.ext E, b.ext E, c.ext E, d.ext E, r⟩
theorem Str.exa {Z : State} {h : Heap} {x : Addr} {cs : List Int32} (S : Str Z h x cs) : Exa Z h x "java/lang/String" := by
  obtain ⟨t, kb, N, cd, vs, a, r⟩ := S; exact a
theorem Str.keepExa {Z : State} {h h' : Heap} {x y : Addr} {cs : List Int32} {C : String} {n : Nat} {a0 : Array Value} (S : Str Z h x cs) (K : Keep h h' [y]) (E : Exa Z h y C) (wi : (Jvm.Cond.instantiable C n).before a0 Z = true) (hC : C ≠ "java/lang/String" := by decide) : Str Z h' x cs := by
  obtain ⟨t, kb, N, cd, vs, a, b, c, d, r⟩ := S
  have n1 : x ≠ y := Exa.ne a E (Ne.symm hC)
  have n2 : t ≠ y := Ne.symm (Exa.neArv E d wi)
  exact ⟨t, kb, N, cd, vs, a.keep K, b.keep K (ninS n1 nin0), c.keep K (ninS n1 nin0), d.keep K (ninS n2 nin0), r⟩
/-- null, or such a String -/
def OStr (Z : State) (h : Heap) (v : Value) (o : Option (List Int32)) : Prop := (v = .null ∧ o = none) ∨ ∃ a cs, v = .ref a ∧ o = some cs ∧ Str Z h a cs
theorem OStr.ext {Z : State} {h h' : Heap} {v : Value} {o : Option (List Int32)} (S : OStr Z h v o) (E : Ext h h') : OStr Z h' v o := by
  rcases S with q | ⟨a, cs, q1, q2, q3⟩
  · exact Or.inl q
  · exact Or.inr ⟨a, cs, q1, q2, q3.ext E⟩
theorem OStr.isRef {Z : State} {h : Heap} {v : Value} {o : Option (List Int32)} (S : OStr Z h v o) : v.isRef = true := by
  rcases S with ⟨rfl, -⟩ | ⟨a, cs, rfl, -⟩ <;> rfl
end W
end Jvm.Pilot.@@N@@
namespace Jvm.Pilot.@@N@@
open Jvm Jvm.ClassFile Sem Op Lib Jvm.Free Jvm.Stand Jvm.LawKit Jvm.RoadKit Bundle Jvm.Pilot.@@N@@.Jvm.D
theorem wd {a0 : Array Value} {Z : State} (hw : ∀ d ∈ tables_1, d.before a0 Z = true) {k : Nat} {d : Jvm.Cond} (h : tables_1[k]? = some d) : d.before a0 Z = true := hw d (List.mem_of_getElem? h)
abbrev ownEL : List (String × Nat) := [("java/lang/String", 7)]
theorem own_atoms : ∀ d ∈ Bundle.stringAtoms, d ∈ tables_1 := by decide +kernel
theorem own_consts : ∀ p ∈ ownEL, p ∈ consts_1 := by decide +kernel
theorem own_words : ∀ d ∈ StrChars.Road.words, d ∈ tables_1 := by decide +kernel
theorem own_up {c : Int32} (h : ¬ (255 : Int32) < c) : ¬ (65535 : Int32) < c := by
  rw [Int32.lt_iff_toInt_lt] at h ⊢
  have e0 : (255 : Int32).toInt = 255 := rfl
  have e1 : (65535 : Int32).toInt = 65535 := rfl
  omega
theorem own_m255 (x : Int32) : ¬ (x &&& 255) < 0 ∧ ¬ (255 : Int32) < (x &&& 255) := by
  have q := c_mask x 255 8 (by decide) (by decide)
  have e0 : (0 : Int32).toInt = 0 := rfl
  have e1 : (255 : Int32).toInt = 255 := rfl
  rw [Int32.lt_iff_toInt_lt, Int32.lt_iff_toInt_lt]; omega
theorem own_nar255 (x : Int32) : nar .char (x &&& 255) = x &&& 255 := i2c_mask x
theorem own_mask3 (x : Int32) : (x &&& 3) = 0 ∨ (x &&& 3) = 1 ∨ (x &&& 3) = 2 ∨ (x &&& 3) = 3 := by
  have q := c_mask x 3 2 (by decide) (by decide)
  have r : (x &&& 3).toInt = 0 ∨ (x &&& 3).toInt = 1 ∨ (x &&& 3).toInt = 2 ∨ (x &&& 3).toInt = 3 := by omega
  rcases r with r | r | r | r
  · exact Or.inl (Int32.toInt_inj.mp r)
  · exact Or.inr (Or.inl (Int32.toInt_inj.mp r))
  · exact Or.inr (Or.inr (Or.inl (Int32.toInt_inj.mp r)))
  · exact Or.inr (Or.inr (Or.inr (Int32.toInt_inj.mp r)))
theorem own_rf {C : String} {v : Value} (h : v.isRef = true) : narrow (.object C) v = v ∧ fits (.object C) v = true := by cases v <;> first | (cases h; done) | exact ⟨rfl, rfl⟩
theorem d1_0 : decode method_2_code 0 = .ok (.iload_n 0, 1) := by decide +kernel
theorem d1_1 : decode method_2_code 1 = .ok (.sipush 255, 3) := by decide +kernel
theorem d1_4 : decode method_2_code 4 = .ok (.iand, 1) := by decide +kernel
theorem d1_5 : decode method_2_code 5 = .ok (.i2c, 1) := by decide +kernel
theorem d1_6 : decode method_2_code 6 = .ok (.istore_n 1, 1) := by decide +kernel
theorem d1_7 : decode method_2_code 7 = .ok (.iload_n 0, 1) := by decide +kernel
theorem d1_8 : decode method_2_code 8 = .ok (.bipush 8, 2) := by decide +kernel
theorem d1_10 : decode method_2_code 10 = .ok (.iushr, 1) := by decide +kernel
theorem d1_11 : decode method_2_code 11 = .ok (.sipush 255, 3) := by decide +kernel
theorem d1_14 : decode method_2_code 14 = .ok (.iand, 1) := by decide +kernel
theorem d1_15 : decode method_2_code 15 = .ok (.i2c, 1) := by decide +kernel
theorem d1_16 : decode method_2_code 16 = .ok (.istore_n 2, 1) := by decide +kernel
theorem d1_17 : decode method_2_code 17 = .ok (.iload_n 0, 1) := by decide +kernel
theorem d1_18 : decode method_2_code 18 = .ok (.bipush 16, 2) := by decide +kernel
theorem d1_20 : decode method_2_code 20 = .ok (.iushr, 1) := by decide +kernel
theorem d1_21 : decode method_2_code 21 = .ok (.sipush 255, 3) := by decide +kernel
theorem d1_24 : decode method_2_code 24 = .ok (.iand, 1) := by decide +kernel
theorem d1_25 : decode method_2_code 25 = .ok (.i2c, 1) := by decide +kernel
theorem d1_26 : decode method_2_code 26 = .ok (.istore_n 3, 1) := by decide +kernel
theorem d1_27 : decode method_2_code 27 = .ok (.iload_n 0, 1) := by decide +kernel
theorem d1_28 : decode method_2_code 28 = .ok (.bipush 24, 2) := by decide +kernel
theorem d1_30 : decode method_2_code 30 = .ok (.iushr, 1) := by decide +kernel
theorem d1_31 : decode method_2_code 31 = .ok (.iconst 3, 1) := by decide +kernel
theorem d1_32 : decode method_2_code 32 = .ok (.iand, 1) := by decide +kernel
theorem d1_33 : decode method_2_code 33 = .ok (.istore 4, 2) := by decide +kernel
theorem d1_35 : decode method_2_code 35 = .ok (.iload 4, 2) := by decide +kernel
theorem d1_37 : decode method_2_code 37 = .ok (.ifCond .ne 11, 3) := by decide +kernel
theorem d1_40 : decode method_2_code 40 = .ok (.iconst 0, 1) := by decide +kernel
theorem d1_41 : decode method_2_code 41 = .ok (.newarray .char, 2) := by decide +kernel
theorem d1_43 : decode method_2_code 43 = .ok (.astore 5, 2) := by decide +kernel
theorem d1_45 : decode method_2_code 45 = .ok (.goto 60, 3) := by decide +kernel
theorem d1_48 : decode method_2_code 48 = .ok (.iload 4, 2) := by decide +kernel
theorem d1_50 : decode method_2_code 50 = .ok (.iconst 1, 1) := by decide +kernel
theorem d1_51 : decode method_2_code 51 = .ok (.if_icmp .ne 15, 3) := by decide +kernel
theorem d1_54 : decode method_2_code 54 = .ok (.iconst 1, 1) := by decide +kernel
theorem d1_55 : decode method_2_code 55 = .ok (.newarray .char, 2) := by decide +kernel
theorem d1_57 : decode method_2_code 57 = .ok (.dup, 1) := by decide +kernel
theorem d1_58 : decode method_2_code 58 = .ok (.iconst 0, 1) := by decide +kernel
theorem d1_59 : decode method_2_code 59 = .ok (.iload_n 1, 1) := by decide +kernel
theorem d1_60 : decode method_2_code 60 = .ok (.castore, 1) := by decide +kernel
theorem d1_61 : decode method_2_code 61 = .ok (.astore 5, 2) := by decide +kernel
theorem d1_63 : decode method_2_code 63 = .ok (.goto 42, 3) := by decide +kernel
theorem d1_66 : decode method_2_code 66 = .ok (.iload 4, 2) := by decide +kernel
theorem d1_68 : decode method_2_code 68 = .ok (.iconst 2, 1) := by decide +kernel
theorem d1_69 : decode method_2_code 69 = .ok (.if_icmp .ne 19, 3) := by decide +kernel
theorem d1_72 : decode method_2_code 72 = .ok (.iconst 2, 1) := by decide +kernel
theorem d1_73 : decode method_2_code 73 = .ok (.newarray .char, 2) := by decide +kernel
theorem d1_75 : decode method_2_code 75 = .ok (.dup, 1) := by decide +kernel
theorem d1_76 : decode method_2_code 76 = .ok (.iconst 0, 1) := by decide +kernel
theorem d1_77 : decode method_2_code 77 = .ok (.iload_n 1, 1) := by decide +kernel
theorem d1_78 : decode method_2_code 78 = .ok (.castore, 1) := by decide +kernel
theorem d1_79 : decode method_2_code 79 = .ok (.dup, 1) := by decide +kernel
theorem d1_80 : decode method_2_code 80 = .ok (.iconst 1, 1) := by decide +kernel
theorem d1_81 : decode method_2_code 81 = .ok (.iload_n 2, 1) := by decide +kernel
theorem d1_82 : decode method_2_code 82 = .ok (.castore, 1) := by decide +kernel
theorem d1_83 : decode method_2_code 83 = .ok (.astore 5, 2) := by decide +kernel
theorem d1_85 : decode method_2_code 85 = .ok (.goto 20, 3) := by decide +kernel
theorem d1_88 : decode method_2_code 88 = .ok (.iconst 3, 1) := by decide +kernel
theorem d1_89 : decode method_2_code 89 = .ok (.newarray .char, 2) := by decide +kernel
theorem d1_91 : decode method_2_code 91 = .ok (.dup, 1) := by decide +kernel
theorem d1_92 : decode method_2_code 92 = .ok (.iconst 0, 1) := by decide +kernel
theorem d1_93 : decode method_2_code 93 = .ok (.iload_n 1, 1) := by decide +kernel
theorem d1_94 : decode method_2_code 94 = .ok (.castore, 1) := by decide +kernel
theorem d1_95 : decode method_2_code 95 = .ok (.dup, 1) := by decide +kernel
theorem d1_96 : decode method_2_code 96 = .ok (.iconst 1, 1) := by decide +kernel
theorem d1_97 : decode method_2_code 97 = .ok (.iload_n 2, 1) := by decide +kernel
theorem d1_98 : decode method_2_code 98 = .ok (.castore, 1) := by decide +kernel
theorem d1_99 : decode method_2_code 99 = .ok (.dup, 1) := by decide +kernel
theorem d1_100 : decode method_2_code 100 = .ok (.iconst 2, 1) := by decide +kernel
theorem d1_101 : decode method_2_code 101 = .ok (.iload_n 3, 1) := by decide +kernel
theorem d1_102 : decode method_2_code 102 = .ok (.castore, 1) := by decide +kernel
theorem d1_103 : decode method_2_code 103 = .ok (.astore 5, 2) := by decide +kernel
theorem d1_105 : decode method_2_code 105 = .ok (.new 7, 3) := by decide +kernel
theorem d1_108 : decode method_2_code 108 = .ok (.dup, 1) := by decide +kernel
theorem d1_109 : decode method_2_code 109 = .ok (.aload 5, 2) := by decide +kernel
theorem d1_111 : decode method_2_code 111 = .ok (.invokespecial 9, 3) := by decide +kernel
theorem d1_114 : decode method_2_code 114 = .ok (.areturn, 1) := by decide +kernel
theorem d2_0 : decode jdk_42_method_3_code 0 = .ok (.aload_n 0, 1) := by decide +kernel
theorem d2_1 : decode jdk_42_method_3_code 1 = .ok (.aload_n 1, 1) := by decide +kernel
theorem d2_2 : decode jdk_42_method_3_code 2 = .ok (.iconst 0, 1) := by decide +kernel
theorem d2_3 : decode jdk_42_method_3_code 3 = .ok (.aload_n 1, 1) := by decide +kernel
theorem d2_4 : decode jdk_42_method_3_code 4 = .ok (.arraylength, 1) := by decide +kernel
theorem d2_5 : decode jdk_42_method_3_code 5 = .ok (.aconst_null, 1) := by decide +kernel
theorem d2_6 : decode jdk_42_method_3_code 6 = .ok (.invokespecial 27, 3) := by decide +kernel
theorem d2_9 : decode jdk_42_method_3_code 9 = .ok (.return_, 1) := by decide +kernel
theorem d3_0 : decode jdk_42_method_149_code 0 = .ok (.aload_n 0, 1) := by decide +kernel
theorem d3_1 : decode jdk_42_method_149_code 1 = .ok (.invokespecial 1, 3) := by decide +kernel
theorem d3_4 : decode jdk_42_method_149_code 4 = .ok (.iload_n 3, 1) := by decide +kernel
theorem d3_5 : decode jdk_42_method_149_code 5 = .ok (.ifCond .ne 22, 3) := by decide +kernel
theorem d3_8 : decode jdk_42_method_149_code 8 = .ok (.aload_n 0, 1) := by decide +kernel
theorem d3_9 : decode jdk_42_method_149_code 9 = .ok (.ldc 7, 2) := by decide +kernel
theorem d3_11 : decode jdk_42_method_149_code 11 = .ok (.getfield 9, 3) := by decide +kernel
theorem d3_14 : decode jdk_42_method_149_code 14 = .ok (.putfield 9, 3) := by decide +kernel
theorem d3_17 : decode jdk_42_method_149_code 17 = .ok (.aload_n 0, 1) := by decide +kernel
theorem d3_18 : decode jdk_42_method_149_code 18 = .ok (.ldc 7, 2) := by decide +kernel
theorem d3_20 : decode jdk_42_method_149_code 20 = .ok (.getfield 15, 3) := by decide +kernel
theorem d3_23 : decode jdk_42_method_149_code 23 = .ok (.putfield 15, 3) := by decide +kernel
theorem d3_26 : decode jdk_42_method_149_code 26 = .ok (.return_, 1) := by decide +kernel
theorem d5_0 : decode prog_12_method_2_code 0 = .ok (.new 8, 3) := by decide +kernel
theorem d5_3 : decode prog_12_method_2_code 3 = .ok (.dup, 1) := by decide +kernel
theorem d5_4 : decode prog_12_method_2_code 4 = .ok (.aload_n 0, 1) := by decide +kernel
theorem d5_5 : decode prog_12_method_2_code 5 = .ok (.ldc 34, 2) := by decide +kernel
theorem d5_7 : decode prog_12_method_2_code 7 = .ok (.invokestatic 35, 3) := by decide +kernel
theorem d5_10 : decode prog_12_method_2_code 10 = .ok (.checkcast 41, 3) := by decide +kernel
theorem d5_13 : decode prog_12_method_2_code 13 = .ok (.aload_n 1, 1) := by decide +kernel
theorem d5_14 : decode prog_12_method_2_code 14 = .ok (.ldc 43, 2) := by decide +kernel
theorem d5_16 : decode prog_12_method_2_code 16 = .ok (.invokestatic 35, 3) := by decide +kernel
theorem d5_19 : decode prog_12_method_2_code 19 = .ok (.checkcast 41, 3) := by decide +kernel
theorem d5_22 : decode prog_12_method_2_code 22 = .ok (.iconst 0, 1) := by decide +kernel
theorem d5_23 : decode prog_12_method_2_code 23 = .ok (.aconst_null, 1) := by decide +kernel
theorem d5_24 : decode prog_12_method_2_code 24 = .ok (.getstatic 44, 3) := by decide +kernel
theorem d5_27 : decode prog_12_method_2_code 27 = .ok (.bipush 10, 2) := by decide +kernel
theorem d5_29 : decode prog_12_method_2_code 29 = .ok (.aconst_null, 1) := by decide +kernel
theorem d5_30 : decode prog_12_method_2_code 30 = .ok (.invokespecial 51, 3) := by decide +kernel
theorem d5_33 : decode prog_12_method_2_code 33 = .ok (.areturn, 1) := by decide +kernel
theorem d6_0 : decode jdk_31_method_11_code 0 = .ok (.aload_n 0, 1) := by decide +kernel
theorem d6_1 : decode jdk_31_method_11_code 1 = .ok (.ifnonnull 12, 3) := by decide +kernel
theorem d6_13 : decode jdk_31_method_11_code 13 = .ok (.aload_n 0, 1) := by decide +kernel
theorem d6_14 : decode jdk_31_method_11_code 14 = .ok (.areturn, 1) := by decide +kernel
theorem d7_0 : decode prog_12_method_1_code 0 = .ok (.aload_n 0, 1) := by decide +kernel
theorem d7_1 : decode prog_12_method_1_code 1 = .ok (.invokespecial 1, 3) := by decide +kernel
theorem d7_4 : decode prog_12_method_1_code 4 = .ok (.aload_n 0, 1) := by decide +kernel
theorem d7_5 : decode prog_12_method_1_code 5 = .ok (.aload_n 1, 1) := by decide +kernel
theorem d7_6 : decode prog_12_method_1_code 6 = .ok (.putfield 7, 3) := by decide +kernel
theorem d7_9 : decode prog_12_method_1_code 9 = .ok (.aload_n 0, 1) := by decide +kernel
theorem d7_10 : decode prog_12_method_1_code 10 = .ok (.aload_n 2, 1) := by decide +kernel
theorem d7_11 : decode prog_12_method_1_code 11 = .ok (.putfield 13, 3) := by decide +kernel
theorem d7_14 : decode prog_12_method_1_code 14 = .ok (.aload_n 0, 1) := by decide +kernel
theorem d7_15 : decode prog_12_method_1_code 15 = .ok (.iload_n 3, 1) := by decide +kernel
theorem d7_16 : decode prog_12_method_1_code 16 = .ok (.putfield 16, 3) := by decide +kernel
theorem d7_19 : decode prog_12_method_1_code 19 = .ok (.aload_n 0, 1) := by decide +kernel
theorem d7_20 : decode prog_12_method_1_code 20 = .ok (.aload 4, 2) := by decide +kernel
theorem d7_22 : decode prog_12_method_1_code 22 = .ok (.putfield 20, 3) := by decide +kernel
theorem d7_25 : decode prog_12_method_1_code 25 = .ok (.aload_n 0, 1) := by decide +kernel
theorem d7_26 : decode prog_12_method_1_code 26 = .ok (.aload 5, 2) := by decide +kernel
theorem d7_28 : decode prog_12_method_1_code 28 = .ok (.putfield 24, 3) := by decide +kernel
theorem d7_31 : decode prog_12_method_1_code 31 = .ok (.aload_n 0, 1) := by decide +kernel
theorem d7_32 : decode prog_12_method_1_code 32 = .ok (.iload 6, 2) := by decide +kernel
theorem d7_34 : decode prog_12_method_1_code 34 = .ok (.putfield 28, 3) := by decide +kernel
theorem d7_37 : decode prog_12_method_1_code 37 = .ok (.aload_n 0, 1) := by decide +kernel
theorem d7_38 : decode prog_12_method_1_code 38 = .ok (.aload 7, 2) := by decide +kernel
theorem d7_40 : decode prog_12_method_1_code 40 = .ok (.putfield 31, 3) := by decide +kernel
theorem d7_43 : decode prog_12_method_1_code 43 = .ok (.return_, 1) := by decide +kernel
theorem d8_0 : decode prog_12_method_8_code 0 = .ok (.aload_n 0, 1) := by decide +kernel
theorem d8_1 : decode prog_12_method_8_code 1 = .ok (.getfield 7, 3) := by decide +kernel
theorem d8_4 : decode prog_12_method_8_code 4 = .ok (.areturn, 1) := by decide +kernel
theorem d9_0 : decode jdk_42_method_66_code 0 = .ok (.aload_n 0, 1) := by decide +kernel
theorem d9_1 : decode jdk_42_method_66_code 1 = .ok (.aload_n 1, 1) := by decide +kernel
theorem d9_2 : decode jdk_42_method_66_code 2 = .ok (.if_acmp .ne 5, 3) := by decide +kernel
theorem d9_5 : decode jdk_42_method_66_code 5 = .ok (.iconst 1, 1) := by decide +kernel
theorem d9_6 : decode jdk_42_method_66_code 6 = .ok (.ireturn, 1) := by decide +kernel
theorem d10_0 : decode prog_12_method_9_code 0 = .ok (.aload_n 0, 1) := by decide +kernel
theorem d10_1 : decode prog_12_method_9_code 1 = .ok (.getfield 13, 3) := by decide +kernel
theorem d10_4 : decode prog_12_method_9_code 4 = .ok (.areturn, 1) := by decide +kernel
theorem d11_0 : decode prog_12_method_10_code 0 = .ok (.aload_n 0, 1) := by decide +kernel
theorem d11_1 : decode prog_12_method_10_code 1 = .ok (.getfield 16, 3) := by decide +kernel
theorem d11_4 : decode prog_12_method_10_code 4 = .ok (.ireturn, 1) := by decide +kernel
theorem d12_0 : decode prog_12_method_11_code 0 = .ok (.aload_n 0, 1) := by decide +kernel
theorem d12_1 : decode prog_12_method_11_code 1 = .ok (.getfield 20, 3) := by decide +kernel
theorem d12_4 : decode prog_12_method_11_code 4 = .ok (.areturn, 1) := by decide +kernel
theorem d13_0 : decode prog_12_method_12_code 0 = .ok (.aload_n 0, 1) := by decide +kernel
theorem d13_1 : decode prog_12_method_12_code 1 = .ok (.getfield 24, 3) := by decide +kernel
theorem d13_4 : decode prog_12_method_12_code 4 = .ok (.areturn, 1) := by decide +kernel
theorem d14_0 : decode prog_12_method_13_code 0 = .ok (.aload_n 0, 1) := by decide +kernel
theorem d14_1 : decode prog_12_method_13_code 1 = .ok (.getfield 28, 3) := by decide +kernel
theorem d14_4 : decode prog_12_method_13_code 4 = .ok (.ireturn, 1) := by decide +kernel
theorem d15_0 : decode prog_12_method_14_code 0 = .ok (.aload_n 0, 1) := by decide +kernel
theorem d15_1 : decode prog_12_method_14_code 1 = .ok (.getfield 31, 3) := by decide +kernel
theorem d15_4 : decode prog_12_method_14_code 4 = .ok (.areturn, 1) := by decide +kernel
theorem pn_java_lang_String : plainName "java/lang/String" = true := by first | (simp [plainName, overriddenIn]; done) | decide +kernel
theorem pd_ACIILjava_lang_Void_R_V : parseMethodDescriptor "([CIILjava/lang/Void;)V" = some ⟨[(.array .char), .int, .int, (.object "java/lang/Void")], none⟩ := by decide +kernel
theorem pn_com_example_tables_as_queues_tablesasqueues_NewJobOfPinLaw : plainName "com/example/tables_as_queues/tablesasqueues/NewJobOfPinLaw" = true := by first | (simp [plainName, overriddenIn]; done) | decide +kernel
theorem pd_AC_R_V : parseMethodDescriptor "([C)V" = some ⟨[(.array .char)], none⟩ := by decide +kernel
theorem pn_java_util_Objects : plainName "java/util/Objects" = true := by first | (simp [plainName, overriddenIn]; done) | decide +kernel
theorem pn_com_example_tables_as_queues_tablesasqueues_NewJob : plainName "com/example/tables_as_queues/tablesasqueues/NewJob" = true := by first | (simp [plainName, overriddenIn]; done) | decide +kernel
theorem pd_Ljava_lang_ObjectLjava_lang_String_R_Ljava_lang_Object : parseMethodDescriptor "(Ljava/lang/Object;Ljava/lang/String;)Ljava/lang/Object;" = some ⟨[(.object "java/lang/Object"), (.object "java/lang/String")], some (.object "java/lang/Object")⟩ := by decide +kernel
theorem pd_Ljava_lang_StringLjava_lang_StringILjava_time_InstantLjava_time_DurationILjava_lang_String_R_V : parseMethodDescriptor "(Ljava/lang/String;Ljava/lang/String;ILjava/time/Instant;Ljava/time/Duration;ILjava/lang/String;)V" = some ⟨[(.object "java/lang/String"), (.object "java/lang/String"), .int, (.object "java/time/Instant"), (.object "java/time/Duration"), .int, (.object "java/lang/String")], none⟩ := by decide +kernel
theorem pd_I_R_Ljava_lang_String : parseMethodDescriptor "(I)Ljava/lang/String;" = some ⟨[.int], some (.object "java/lang/String")⟩ := by decide +kernel
theorem pd_Ljava_lang_StringLjava_lang_String_R_Lcom_example_tables_as_queues_tablesasqueues_NewJob : parseMethodDescriptor "(Ljava/lang/String;Ljava/lang/String;)Lcom/example/tables_as_queues/tablesasqueues/NewJob;" = some ⟨[(.object "java/lang/String"), (.object "java/lang/String")], some (.object "com/example/tables_as_queues/tablesasqueues/NewJob")⟩ := by decide +kernel
theorem pd__R_Ljava_lang_String : parseMethodDescriptor "()Ljava/lang/String;" = some ⟨[], some (.object "java/lang/String")⟩ := by decide +kernel
theorem pd_Ljava_lang_Object_R_Z : parseMethodDescriptor "(Ljava/lang/Object;)Z" = some ⟨[(.object "java/lang/Object")], some .boolean⟩ := by decide +kernel
theorem pd__R_I : parseMethodDescriptor "()I" = some ⟨[], some .int⟩ := by decide +kernel
theorem pd__R_Ljava_time_Instant : parseMethodDescriptor "()Ljava/time/Instant;" = some ⟨[], some (.object "java/time/Instant")⟩ := by decide +kernel
theorem pd__R_Ljava_time_Duration : parseMethodDescriptor "()Ljava/time/Duration;" = some ⟨[], some (.object "java/time/Duration")⟩ := by decide +kernel
def QE (Z : State) (x : Addr) (h0 : Heap) (v : Option Value) (h : Heap) (L : List Loc) : Prop := v = none ∧ W.Frw [x] h0.size L ∧ Keep h0 h [x] ∧ W.Str Z h x []
abbrev rmE4 : Room := ({ frames := 1, cells := 4, slots := 8, locals := 14 } : Room)
set_option maxRecDepth 65536 in
set_option maxHeartbeats 40000000 in
theorem nw4 (l : Launch) (Z : State) (a0 : Array Value) (hw : ∀ d ∈ tables_1, d.before a0 Z = true) (wS : ∀ a ∈ Bundle.stringAtoms, a.before a0 Z = true) (hEL : EW Z a0 ownEL) (x b : Addr) (o : Int32) (h0 : Heap) (E0 : Exa Z h0 x "java/lang/String") (v0 c0 : Value) (F0 : Fld Z h0 x "java/lang/String" "value" "[B" v0) (C0 : Fld Z h0 x "java/lang/String" "coder" "B" c0) : W.MetW l Z ownEL (⟨"java/lang/String", "<init>", "([CIILjava/lang/Void;)V"⟩ : MethodName) jdk_42_method_149_code 6 none [] rmE4 #[.ref x, .ref b, .int o, .int 0, .null] [x] h0 (QE Z x h0) := by
  refine W.MetW.mk (ls0 := #[.val (.ref x), .val (.ref b), .val (.int o), .val (.int (0 : Int32)), .val .null, .unset]) [x] (plainFor_of_name pn_java_lang_String) (fun m => by first | (simp [entryFrame, mkF, argsToLocals, Value.category]; done) | rfl) ?_
  intro p e s m below meth c s₁ hml hret hnm hlk hss P0
  show W.Go p.tables e below _ (s₁.setTop (mkF m 0 #[.val (.ref x), .val (.ref b), .val (.int o), .val (.int (0 : Int32)), .val .null, .unset] []))
  refine W.g_aloadN (pc1 := 1) P0.q d3_0 rfl rfl rfl ?_
  refine P0.initO (pc1 := 4) (W := 0) (wd hw (k := 15) rfl) (wd hw (k := 16) rfl) (wd hw (k := 17) rfl) (by rw [hml]; rfl) (by decide) (Nat.le_of_eq rfl) (by decide) d3_1 rfl ?_
  intro T101 P101
  refine W.g_iloadN (pc1 := 5) P101.q d3_4 rfl rfl ?_
  refine W.g_ifN (pc2 := 8) P101.q d3_5 rfl (by decide) ?_
  refine W.g_aloadN (pc1 := 9) P101.q d3_8 rfl rfl rfl ?_
  refine P101.ldcR (pc1 := 11) (n := 0) (vs := []) (z := 0) (wd hw (k := 18) rfl) wS hEL (by decide) ⟨by decide, rfl⟩ (by decide) (by decide) (by decide) (by decide) (by decide) (by decide) d3_9 rfl ?_
  intro a102 T102 h102 t102 k102 P102 E102 R102 A102 C102 F102 V102 N102 L102
  have S102 := R102.safe E0.lt (hss x (List.mem_singleton.mpr rfl))
  refine P102.getF (host := "") (pc1 := 14) (Or.inl (wd hw (k := 24) rfl)) Via.refl F102 d3_11 rfl ?_
  intro T103 P103
  refine P103.putF (host := "") (pc1 := 17) (Or.inl (wd hw (k := 24) rfl)) Via.refl (F0.ext E102) (E0.ext E102) (Or.inr ⟨(wd hw (k := 20) rfl), rfl, hnm⟩) (wd hw (k := 6) rfl) (ty := (.array .byte)) (by decide) rfl rfl (Or.inl (List.mem_singleton.mpr rfl)) S102 d3_14 rfl ?_
  intro T104 h104 P104 W104
  have Sw104 : Safe Z ownEL T102.vm h104 x := Safe.wr W104 S102 P102.chv S102
  have Ca104 := (C0.ext E102).other W104 (Or.inr (slot_ne (t := .byte) (t' := .array .byte) (Or.inr (wd hw (k := 21) rfl)) (Or.inr (wd hw (k := 20) rfl)) (by decide) (by decide) (by decide)))
  have Fa104 := (F0.ext E102).same W104
  have Ea104 := (E0.ext E102).wr W104
  have Va104 := V102.other W104 (Ne.symm (N102 x S102).2)
  refine W.g_aloadN (pc1 := 18) P104.q d3_17 rfl rfl rfl ?_
  refine P104.ldcR (pc1 := 20) (n := 0) (vs := []) (z := 0) (wd hw (k := 18) rfl) wS hEL (by decide) ⟨by decide, rfl⟩ (by decide) (by decide) (by decide) (by decide) (by decide) (by decide) d3_18 rfl ?_
  intro a105 T105 h105 t105 k105 P105 E105 R105 A105 C105 F105 V105 N105 L105
  have S105 := R105.safe Ea104.lt Sw104
  refine P105.getF (host := "") (pc1 := 23) (Or.inl (wd hw (k := 25) rfl)) Via.refl C105 d3_20 rfl ?_
  intro T106 P106
  refine P106.putF (host := "") (pc1 := 26) (Or.inl (wd hw (k := 25) rfl)) Via.refl (Ca104.ext E105) (Ea104.ext E105) (Or.inr ⟨(wd hw (k := 21) rfl), rfl, hnm⟩) (wd hw (k := 6) rfl) (ty := .byte) (by decide) rfl rfl (Or.inl (List.mem_singleton.mpr rfl)) S105 d3_23 rfl ?_
  intro T107 h107 P107 W107
  have Fz := (Fa104.ext E105).other W107 (Or.inr (slot_ne (t := .array .byte) (t' := .byte) (Or.inr (wd hw (k := 20) rfl)) (Or.inr (wd hw (k := 21) rfl)) (by decide) (by decide) (by decide)))
  have Cz := (Ca104.ext E105).same W107
  have Ez := (Ea104.ext E105).wr W107
  have hne : t102 ≠ x := Ne.symm (N102 x S102).2
  have Vz := (Va104.ext E105).other W107 hne
  exact P107.retW hEL hlk hret d3_26 (by decide) (by decide) ⟨rfl, P107.fr, P107.keep, ⟨t102, k102, 0, 0, [], Ez, Fz, Cz, Vz, Or.inl ⟨rfl, rfl, rfl, (fun _ q => nomatch q)⟩, (fun _ q => nomatch q), Nat.zero_le _⟩⟩
abbrev rmE1 : Room := ({ frames := 2, cells := 4, slots := 8, locals := 36 } : Room)
set_option maxRecDepth 65536 in
set_option maxHeartbeats 40000000 in
theorem nw1 (l : Launch) (Z : State) (a0 : Array Value) (hw : ∀ d ∈ tables_1, d.before a0 Z = true) (wS : ∀ a ∈ Bundle.stringAtoms, a.before a0 Z = true) (hEL : EW Z a0 ownEL) (x b : Addr) (kb : ClassId) (vs : List Value) (dv : Value) (h0 : Heap) (E0 : Exa Z h0 x "java/lang/String") (v0 c0 : Value) (F0 : Fld Z h0 x "java/lang/String" "value" "[B" v0) (C0 : Fld Z h0 x "java/lang/String" "coder" "B" c0) (V0 : Arv Z h0 b kb .char 0 vs dv) : W.MetW l Z ownEL (⟨"java/lang/String", "<init>", "([C)V"⟩ : MethodName) jdk_42_method_3_code 2 none [] rmE1 #[.ref x, .ref b] [x] h0 (QE Z x h0) := by
  refine W.MetW.mk (ls0 := #[.val (.ref x), .val (.ref b)]) [x] (plainFor_of_name pn_java_lang_String) (fun m => by first | (simp [entryFrame, mkF, argsToLocals, Value.category]; done) | rfl) ?_
  intro p e s m below meth c s₁ hml hret hnm hlk hss P0
  show W.Go p.tables e below _ (s₁.setTop (mkF m 0 #[.val (.ref x), .val (.ref b)] []))
  refine W.g_aloadN (pc1 := 1) P0.q d2_0 rfl rfl rfl ?_
  refine W.g_aloadN (pc1 := 2) P0.q d2_1 rfl rfl rfl ?_
  refine W.g_iconst (pc1 := 3) (v := (0 : Int32)) P0.q d2_2 (by decide) rfl ?_
  refine W.g_aloadN (pc1 := 4) P0.q d2_3 rfl rfl rfl ?_
  refine P0.len (pc1 := 5) V0 d2_4 rfl ?_
  refine W.g_null (pc1 := 6) P0.q d2_5 rfl ?_
  refine P0.callNW (pc1 := 9) rfl (wd hw (k := 11) rfl) (wd hw (k := 12) rfl) (wd hw (k := 14) rfl) (by decide) (W.MetW.pay (W := 0) (nw4 l Z a0 hw wS hEL x b 0 h0 E0 v0 c0 F0 C0) P0 hEL (allS ⟨E0.lt, hss x (List.mem_singleton.mpr rfl)⟩ all0) (wd hw (k := 14) rfl) (wd hw (k := 7) rfl) (by decide) (by decide)) (argsL := [(.ref b), (.int (0 : Int32)), (.int (0 : Int32)), .null]) (st0 := []) (lenOf pd_ACIILjava_lang_Void_R_V rfl) rfl rfl (Nat.le_of_eq rfl) (by rw [hml]; rfl) (by decide) (by decide) (fun _ _ _ q => q.2.1) d2_6 rfl ?_
  intro v108 T108 h108 L108 q108 P108 R108
  obtain ⟨rfl, f108, K108, S108⟩ := q108
  show W.Go p.tables e below _ (T108.setTop (mkF m 9 #[.val (.ref x), .val (.ref b)] []))
  exact P108.retW hEL hlk hret d2_9 (by decide) (by decide) ⟨rfl, P108.fr, P108.keep, S108⟩
def own_c (b k : Int32) : Int32 := Jvm.Free.XT.ushr b k &&& 255
def own_cs (b : Int32) : List Int32 := if Jvm.Free.XT.ushr b 24 &&& 3 = 0 then [] else if Jvm.Free.XT.ushr b 24 &&& 3 = 1 then [b &&& 255] else if Jvm.Free.XT.ushr b 24 &&& 3 = 2 then [b &&& 255, own_c b 8] else [b &&& 255, own_c b 8, own_c b 16]
def QM (Z : State) (b : Int32) (h0 : Heap) (v : Option Value) (h : Heap) (L : List Loc) : Prop := ∃ a, v = some (.ref a) ∧ W.Frw [] h0.size L ∧ Ext h0 h ∧ W.Str Z h a (own_cs b)
abbrev rmMk : Room := ({ frames := 5, cells := 8, slots := 30, locals := 90 } : Room)
set_option maxRecDepth 65536 in
set_option maxHeartbeats 40000000 in
theorem c_drawn (l : Launch) (Z : State) (a0 : Array Value) (hw : ∀ d ∈ tables_1, d.before a0 Z = true) (wS : ∀ a ∈ Bundle.stringAtoms, a.before a0 Z = true) (hEL : EW Z a0 ownEL) (ba : Int32) (h0 : Heap) (EZ : Ext Z.heap h0) (zc : Int32) (hzc : ¬ zc = 0) (C0 : Sta Z Z.heap "java/lang/String" "COMPACT_STRINGS" "Z" (.int zc)) : W.MetW l Z ownEL (⟨"com/example/tables_as_queues/tablesasqueues/NewJobOfPinLaw", "drawn", "(I)Ljava/lang/String;"⟩ : MethodName) method_2_code 6 ((Option.some (Jvm.ClassFile.FieldType.object "java/lang/String"))) [] rmMk #[.int ba] [] h0 (QM Z ba h0) := by
  refine W.MetW.mk (ls0 := #[.val (.int ba), .unset, .unset, .unset, .unset, .unset]) [] (plainFor_of_name pn_com_example_tables_as_queues_tablesasqueues_NewJobOfPinLaw) (fun m => by first | (simp [entryFrame, mkF, argsToLocals, Value.category]; done) | rfl) ?_
  intro p e s m below meth c s₁ hml hret hnm hlk hss P0
  show W.Go p.tables e below _ (s₁.setTop (mkF m 0 #[.val (.int ba), .unset, .unset, .unset, .unset, .unset] []))
  have hws : ∀ d ∈ StrChars.Road.words, d.before a0 Z = true := fun d hd => hw d (own_words d hd)
  refine W.g_iloadN (pc1 := 1) P0.q d1_0 rfl rfl ?_
  refine W.g_sipush (pc1 := 4) (v := (255 : Int32)) P0.q d1_1 (by decide) rfl ?_
  refine W.g_iand (pc1 := 5) P0.q d1_4 rfl ?_
  refine W.g_i2c (pc1 := 6) P0.q d1_5 rfl ?_
  rw [i2c_mask]
  show W.Go p.tables e below _ (s₁.setTop (mkF m 6 #[.val (.int ba), .unset, .unset, .unset, .unset, .unset] [(.int (ba &&& (255 : Int32)))]))
  refine W.g_istoreN (pc1 := 7) (ls2 := #[.val (.int ba), .val (.int (ba &&& (255 : Int32))), .unset, .unset, .unset, .unset]) P0.q d1_6 rfl rfl ?_
  refine W.g_iloadN (pc1 := 8) P0.q d1_7 rfl rfl ?_
  refine W.g_bipush (pc1 := 10) (v := (8 : Int32)) P0.q d1_8 (by decide) rfl ?_
  refine W.g_iushr (pc1 := 11) P0.q d1_10 rfl ?_
  refine W.g_sipush (pc1 := 14) (v := (255 : Int32)) P0.q d1_11 (by decide) rfl ?_
  refine W.g_iand (pc1 := 15) P0.q d1_14 rfl ?_
  refine W.g_i2c (pc1 := 16) P0.q d1_15 rfl ?_
  rw [i2c_mask]
  show W.Go p.tables e below _ (s₁.setTop (mkF m 16 #[.val (.int ba), .val (.int (ba &&& (255 : Int32))), .unset, .unset, .unset, .unset] [(.int (Jvm.Free.XT.ushr ba (8 : Int32) &&& (255 : Int32)))]))
  refine W.g_istoreN (pc1 := 17) (ls2 := #[.val (.int ba), .val (.int (ba &&& (255 : Int32))), .val (.int (Jvm.Free.XT.ushr ba (8 : Int32) &&& (255 : Int32))), .unset, .unset, .unset]) P0.q d1_16 rfl rfl ?_
  refine W.g_iloadN (pc1 := 18) P0.q d1_17 rfl rfl ?_
  refine W.g_bipush (pc1 := 20) (v := (16 : Int32)) P0.q d1_18 (by decide) rfl ?_
  refine W.g_iushr (pc1 := 21) P0.q d1_20 rfl ?_
  refine W.g_sipush (pc1 := 24) (v := (255 : Int32)) P0.q d1_21 (by decide) rfl ?_
  refine W.g_iand (pc1 := 25) P0.q d1_24 rfl ?_
  refine W.g_i2c (pc1 := 26) P0.q d1_25 rfl ?_
  rw [i2c_mask]
  show W.Go p.tables e below _ (s₁.setTop (mkF m 26 #[.val (.int ba), .val (.int (ba &&& (255 : Int32))), .val (.int (Jvm.Free.XT.ushr ba (8 : Int32) &&& (255 : Int32))), .unset, .unset, .unset] [(.int (Jvm.Free.XT.ushr ba (16 : Int32) &&& (255 : Int32)))]))
  refine W.g_istoreN (pc1 := 27) (ls2 := #[.val (.int ba), .val (.int (ba &&& (255 : Int32))), .val (.int (Jvm.Free.XT.ushr ba (8 : Int32) &&& (255 : Int32))), .val (.int (Jvm.Free.XT.ushr ba (16 : Int32) &&& (255 : Int32))), .unset, .unset]) P0.q d1_26 rfl rfl ?_
  refine W.g_iloadN (pc1 := 28) P0.q d1_27 rfl rfl ?_
  refine W.g_bipush (pc1 := 30) (v := (24 : Int32)) P0.q d1_28 (by decide) rfl ?_
  refine W.g_iushr (pc1 := 31) P0.q d1_30 rfl ?_
  refine W.g_iconst (pc1 := 32) (v := (3 : Int32)) P0.q d1_31 (by decide) rfl ?_
  refine W.g_iand (pc1 := 33) P0.q d1_32 rfl ?_
  rcases own_mask3 (Jvm.Free.XT.ushr ba 24) with en | en | en | en <;> rw [en]
  · show W.Go p.tables e below _ (s₁.setTop (mkF m 33 #[.val (.int ba), .val (.int (ba &&& (255 : Int32))), .val (.int (Jvm.Free.XT.ushr ba (8 : Int32) &&& (255 : Int32))), .val (.int (Jvm.Free.XT.ushr ba (16 : Int32) &&& (255 : Int32))), .unset, .unset] [(.int (0 : Int32))]))
    refine W.g_istore (pc1 := 35) (ls2 := #[.val (.int ba), .val (.int (ba &&& (255 : Int32))), .val (.int (Jvm.Free.XT.ushr ba (8 : Int32) &&& (255 : Int32))), .val (.int (Jvm.Free.XT.ushr ba (16 : Int32) &&& (255 : Int32))), .val (.int (0 : Int32)), .unset]) P0.q d1_33 rfl rfl ?_
    refine W.g_iload (pc1 := 37) P0.q d1_35 rfl rfl ?_
    refine W.g_ifN (pc2 := 40) P0.q d1_37 rfl (by decide) ?_
    refine W.g_iconst (pc1 := 41) (v := (0 : Int32)) P0.q d1_40 (by decide) rfl ?_
    refine P0.newP (pc1 := 43) (cap := 0) (wd hw (k := 4) rfl) (by decide) (by decide) (by decide) (by decide) (by decide) d1_41 rfl ?_
    intro T109 h109 x109 k109 g109 P109 E109 V109
    refine W.g_astore (pc1 := 45) (ls2 := #[.val (.int ba), .val (.int (ba &&& (255 : Int32))), .val (.int (Jvm.Free.XT.ushr ba (8 : Int32) &&& (255 : Int32))), .val (.int (Jvm.Free.XT.ushr ba (16 : Int32) &&& (255 : Int32))), .val (.int (0 : Int32)), .val (.ref x109)]) P109.q d1_43 rfl rfl rfl ?_
    refine W.g_goto (pc1 := 105) P109.q d1_45 (by decide) rfl ?_
    refine P109.newO (pc1 := 108) (wd hw (k := 5) rfl) (wd hw (k := 6) rfl) (wd hw (k := 7) rfl) (by decide) (by decide) d1_105 rfl ?_
    intro T110 h110 x110 g110 P110 E110 A110 D110 U110
    refine W.g_dup (pc1 := 109) P110.q d1_108 rfl rfl ?_
    refine W.g_aload (pc1 := 111) P110.q d1_109 rfl rfl rfl ?_
    have Vv110 := V109.ext E110
    have Fv110 : Fld Z h110 x110 "java/lang/String" "value" "[B" .null := D110 (Or.inr (wd hw (k := 20) rfl)) (ty := .array .byte) (by decide)
    have Fc110 : Fld Z h110 x110 "java/lang/String" "coder" "B" (.int 0) := D110 (Or.inr (wd hw (k := 21) rfl)) (ty := .byte) (by decide)
    have Sx110 := Safe.ext (EL := ownEL) E110 P109.chv (Safe.new (Nat.le_of_eq g110.symm))
    refine P110.callNW (pc1 := 114) rfl (wd hw (k := 8) rfl) (wd hw (k := 9) rfl) (wd hw (k := 10) rfl) (by decide) (W.MetW.pay (W := 1) (nw1 l Z a0 hw wS hEL x110 x109 k109 _ _ h110 A110 _ _ Fv110 Fc110 Vv110) P110 hEL (allS ⟨A110.lt, Sx110⟩ all0) (wd hw (k := 10) rfl) (wd hw (k := 7) rfl) (by decide) (by decide)) (argsL := [(.ref x109)]) (st0 := [(.ref x110)]) (lenOf pd_AC_R_V rfl) rfl rfl (Nat.le_of_eq rfl) (by rw [hml]; rfl) (by decide) (by decide) (fun _ _ _ q => q.2.1.up P110.sz (allS (Or.inr (by rw [g110]; exact P109.sz)) all0)) d1_111 rfl ?_
    intro v111 T111 h111 L111 q111 P111 R111
    obtain ⟨rfl, f111, K111, S111⟩ := q111
    show W.Go p.tables e below _ (T111.setTop (mkF m 114 #[.val (.int ba), .val (.int (ba &&& (255 : Int32))), .val (.int (Jvm.Free.XT.ushr ba (8 : Int32) &&& (255 : Int32))), .val (.int (Jvm.Free.XT.ushr ba (16 : Int32) &&& (255 : Int32))), .val (.int (0 : Int32)), .val (.ref x109)] [(.ref x110)]))
    exact P111.retAW hEL hlk hret rfl rfl rfl d1_114 (by decide) (by decide) ⟨x110, rfl, P111.fr, P111.ext0, by rw [own_cs, if_pos en]; exact S111⟩
  · show W.Go p.tables e below _ (s₁.setTop (mkF m 33 #[.val (.int ba), .val (.int (ba &&& (255 : Int32))), .val (.int (Jvm.Free.XT.ushr ba (8 : Int32) &&& (255 : Int32))), .val (.int (Jvm.Free.XT.ushr ba (16 : Int32) &&& (255 : Int32))), .unset, .unset] [(.int (1 : Int32))]))
    refine W.g_istore (pc1 := 35) (ls2 := #[.val (.int ba), .val (.int (ba &&& (255 : Int32))), .val (.int (Jvm.Free.XT.ushr ba (8 : Int32) &&& (255 : Int32))), .val (.int (Jvm.Free.XT.ushr ba (16 : Int32) &&& (255 : Int32))), .val (.int (1 : Int32)), .unset]) P0.q d1_33 rfl rfl ?_
    refine W.g_iload (pc1 := 37) P0.q d1_35 rfl rfl ?_
    refine W.g_ifY (pc1 := 48) P0.q d1_37 (by decide) rfl (by decide) ?_
    refine W.g_iload (pc1 := 50) P0.q d1_48 rfl rfl ?_
    refine W.g_iconst (pc1 := 51) (v := (1 : Int32)) P0.q d1_50 (by decide) rfl ?_
    refine W.g_cmpN (pc2 := 54) P0.q d1_51 rfl (by decide) ?_
    refine W.g_iconst (pc1 := 55) (v := (1 : Int32)) P0.q d1_54 (by decide) rfl ?_
    refine P0.newP (pc1 := 57) (cap := 1) (wd hw (k := 4) rfl) (by decide) (by decide) (by decide) (by decide) (by decide) d1_55 rfl ?_
    intro T112 h112 x112 k112 g112 P112 E112 V112
    refine W.g_dup (pc1 := 58) P112.q d1_57 rfl rfl ?_
    refine W.g_iconst (pc1 := 59) (v := (0 : Int32)) P112.q d1_58 (by decide) rfl ?_
    refine W.g_iloadN (pc1 := 60) P112.q d1_59 rfl rfl ?_
    refine P112.stC (pc1 := 61) (i := 0) V112 (by decide) (by decide) (Nat.le_of_ble_eq_true rfl) rfl (Or.inr (by rw [g112]; exact P0.sz)) (Safe.arv P112.al V112 (by decide)) d1_60 rfl ?_
    intro T113 h113 P113 W113 V113
    refine W.g_astore (pc1 := 63) (ls2 := #[.val (.int ba), .val (.int (ba &&& (255 : Int32))), .val (.int (Jvm.Free.XT.ushr ba (8 : Int32) &&& (255 : Int32))), .val (.int (Jvm.Free.XT.ushr ba (16 : Int32) &&& (255 : Int32))), .val (.int (1 : Int32)), .val (.ref x112)]) P113.q d1_61 rfl rfl rfl ?_
    refine W.g_goto (pc1 := 105) P113.q d1_63 (by decide) rfl ?_
    refine P113.newO (pc1 := 108) (wd hw (k := 5) rfl) (wd hw (k := 6) rfl) (wd hw (k := 7) rfl) (by decide) (by decide) d1_105 rfl ?_
    intro T114 h114 x114 g114 P114 E114 A114 D114 U114
    refine W.g_dup (pc1 := 109) P114.q d1_108 rfl rfl ?_
    refine W.g_aload (pc1 := 111) P114.q d1_109 rfl rfl rfl ?_
    have Vv114 := V113.ext E114
    have Fv114 : Fld Z h114 x114 "java/lang/String" "value" "[B" .null := D114 (Or.inr (wd hw (k := 20) rfl)) (ty := .array .byte) (by decide)
    have Fc114 : Fld Z h114 x114 "java/lang/String" "coder" "B" (.int 0) := D114 (Or.inr (wd hw (k := 21) rfl)) (ty := .byte) (by decide)
    have Sx114 := Safe.ext (EL := ownEL) E114 P113.chv (Safe.new (Nat.le_of_eq g114.symm))
    simp only [List.replicate, List.set, own_nar255] at Vv114
    have hp114 : ∀ c ∈ ([(ba &&& 255)] : List Int32), ¬ c < 0 ∧ ¬ (255 : Int32) < c := fun c hc => by
        simp only [List.mem_cons, List.not_mem_nil, or_false] at hc
        first | (rcases hc with rfl | rfl | rfl <;> exact own_m255 _) | (rcases hc with rfl | rfl <;> exact own_m255 _) | (subst hc; exact own_m255 _)
    refine P114.callN (pc1 := 114) rfl (wd hw (k := 8) rfl) (wd hw (k := 9) rfl) (wd hw (k := 10) rfl) (by decide) (StrChars.Road.backV (W := 1) P114.hz hws (kI := 4) (wd hw (k := 6) rfl) (cs := [(ba &&& 255)]) (bs := ([(ba &&& 255)]).map (fun c => c.toInt8.toInt32)) (n := 1) (n0 := h0.size) (by rw [g114]; exact P113.sz) P114.sz A114 Fv114 Fc114 Vv114 (C0.ext (P114.extZ EZ all0)) hzc rfl rfl (by decide) (by decide) hp114 rfl (by decide) (by decide)) (argsL := [(.ref x112)]) (st0 := [(.ref x114)]) (lenOf pd_AC_R_V rfl) rfl rfl (Nat.le_of_eq rfl) (by rw [hml]; rfl) (by decide) (by decide) (fun _ _ _ q => ⟨W.Frw.of_fr q.2.1 (Nat.le_refl _), CHr.keep q.2.2.1 (sfS Sx114 sf0) P114.chv⟩) d1_111 rfl ?_
    intro v115 T115 h115 L115 q115 P115
    obtain ⟨rfl, f115, K115, A115, C115, t115, k115, b115, c115, d115, F115, V115⟩ := q115
    show W.Go p.tables e below _ (T115.setTop (mkF m 114 #[.val (.int ba), .val (.int (ba &&& (255 : Int32))), .val (.int (Jvm.Free.XT.ushr ba (8 : Int32) &&& (255 : Int32))), .val (.int (Jvm.Free.XT.ushr ba (16 : Int32) &&& (255 : Int32))), .val (.int (1 : Int32)), .val (.ref x112)] [(.ref x114)]))
    have S115 : W.Str Z h115 x114 [(ba &&& 255)] := ⟨t115, k115, _, _, _, A115, F115, C115, V115, StrChars.Road.codOf (cs := [(ba &&& 255)]) (n := 1) rfl (fun c hc => (hp114 c hc).2), fun c hc => ⟨(hp114 c hc).1, own_up (hp114 c hc).2⟩, Nat.le_of_ble_eq_true rfl⟩
    exact P115.retAW hEL hlk hret rfl rfl rfl d1_114 (by decide) (by decide) ⟨x114, rfl, P115.fr, P115.ext0, by rw [own_cs, if_neg (by rw [en]; decide), if_pos en]; exact S115⟩
  · show W.Go p.tables e below _ (s₁.setTop (mkF m 33 #[.val (.int ba), .val (.int (ba &&& (255 : Int32))), .val (.int (Jvm.Free.XT.ushr ba (8 : Int32) &&& (255 : Int32))), .val (.int (Jvm.Free.XT.ushr ba (16 : Int32) &&& (255 : Int32))), .unset, .unset] [(.int (2 : Int32))]))
    refine W.g_istore (pc1 := 35) (ls2 := #[.val (.int ba), .val (.int (ba &&& (255 : Int32))), .val (.int (Jvm.Free.XT.ushr ba (8 : Int32) &&& (255 : Int32))), .val (.int (Jvm.Free.XT.ushr ba (16 : Int32) &&& (255 : Int32))), .val (.int (2 : Int32)), .unset]) P0.q d1_33 rfl rfl ?_
    refine W.g_iload (pc1 := 37) P0.q d1_35 rfl rfl ?_
    refine W.g_ifY (pc1 := 48) P0.q d1_37 (by decide) rfl (by decide) ?_
    refine W.g_iload (pc1 := 50) P0.q d1_48 rfl rfl ?_
    refine W.g_iconst (pc1 := 51) (v := (1 : Int32)) P0.q d1_50 (by decide) rfl ?_
    refine W.g_cmpY (pc1 := 66) P0.q d1_51 (by decide) rfl (by decide) ?_
    refine W.g_iload (pc1 := 68) P0.q d1_66 rfl rfl ?_
    refine W.g_iconst (pc1 := 69) (v := (2 : Int32)) P0.q d1_68 (by decide) rfl ?_
    refine W.g_cmpN (pc2 := 72) P0.q d1_69 rfl (by decide) ?_
    refine W.g_iconst (pc1 := 73) (v := (2 : Int32)) P0.q d1_72 (by decide) rfl ?_
    refine P0.newP (pc1 := 75) (cap := 2) (wd hw (k := 4) rfl) (by decide) (by decide) (by decide) (by decide) (by decide) d1_73 rfl ?_
    intro T116 h116 x116 k116 g116 P116 E116 V116
    refine W.g_dup (pc1 := 76) P116.q d1_75 rfl rfl ?_
    refine W.g_iconst (pc1 := 77) (v := (0 : Int32)) P116.q d1_76 (by decide) rfl ?_
    refine W.g_iloadN (pc1 := 78) P116.q d1_77 rfl rfl ?_
    refine P116.stC (pc1 := 79) (i := 0) V116 (by decide) (by decide) (Nat.le_of_ble_eq_true rfl) rfl (Or.inr (by rw [g116]; exact P0.sz)) (Safe.arv P116.al V116 (by decide)) d1_78 rfl ?_
    intro T117 h117 P117 W117 V117
    refine W.g_dup (pc1 := 80) P117.q d1_79 rfl rfl ?_
    refine W.g_iconst (pc1 := 81) (v := (1 : Int32)) P117.q d1_80 (by decide) rfl ?_
    refine W.g_iloadN (pc1 := 82) P117.q d1_81 rfl rfl ?_
    refine P117.stC (pc1 := 83) (i := 1) V117 (by decide) (by decide) (Nat.le_of_ble_eq_true rfl) rfl (Or.inr (by rw [g116]; exact P0.sz)) (Safe.arv P117.al V117 (by decide)) d1_82 rfl ?_
    intro T118 h118 P118 W118 V118
    refine W.g_astore (pc1 := 85) (ls2 := #[.val (.int ba), .val (.int (ba &&& (255 : Int32))), .val (.int (Jvm.Free.XT.ushr ba (8 : Int32) &&& (255 : Int32))), .val (.int (Jvm.Free.XT.ushr ba (16 : Int32) &&& (255 : Int32))), .val (.int (2 : Int32)), .val (.ref x116)]) P118.q d1_83 rfl rfl rfl ?_
    refine W.g_goto (pc1 := 105) P118.q d1_85 (by decide) rfl ?_
    refine P118.newO (pc1 := 108) (wd hw (k := 5) rfl) (wd hw (k := 6) rfl) (wd hw (k := 7) rfl) (by decide) (by decide) d1_105 rfl ?_
    intro T119 h119 x119 g119 P119 E119 A119 D119 U119
    refine W.g_dup (pc1 := 109) P119.q d1_108 rfl rfl ?_
    refine W.g_aload (pc1 := 111) P119.q d1_109 rfl rfl rfl ?_
    have Vv119 := V118.ext E119
    have Fv119 : Fld Z h119 x119 "java/lang/String" "value" "[B" .null := D119 (Or.inr (wd hw (k := 20) rfl)) (ty := .array .byte) (by decide)
    have Fc119 : Fld Z h119 x119 "java/lang/String" "coder" "B" (.int 0) := D119 (Or.inr (wd hw (k := 21) rfl)) (ty := .byte) (by decide)
    have Sx119 := Safe.ext (EL := ownEL) E119 P118.chv (Safe.new (Nat.le_of_eq g119.symm))
    simp only [List.replicate, List.set, own_nar255] at Vv119
    have hp119 : ∀ c ∈ ([(ba &&& 255), (own_c ba 8)] : List Int32), ¬ c < 0 ∧ ¬ (255 : Int32) < c := fun c hc => by
        simp only [List.mem_cons, List.not_mem_nil, or_false] at hc
        first | (rcases hc with rfl | rfl | rfl <;> exact own_m255 _) | (rcases hc with rfl | rfl <;> exact own_m255 _) | (subst hc; exact own_m255 _)
    refine P119.callN (pc1 := 114) rfl (wd hw (k := 8) rfl) (wd hw (k := 9) rfl) (wd hw (k := 10) rfl) (by decide) (StrChars.Road.backV (W := 1) P119.hz hws (kI := 4) (wd hw (k := 6) rfl) (cs := [(ba &&& 255), (own_c ba 8)]) (bs := ([(ba &&& 255), (own_c ba 8)]).map (fun c => c.toInt8.toInt32)) (n := 2) (n0 := h0.size) (by rw [g119]; exact P118.sz) P119.sz A119 Fv119 Fc119 Vv119 (C0.ext (P119.extZ EZ all0)) hzc rfl rfl (by decide) (by decide) hp119 rfl (by decide) (by decide)) (argsL := [(.ref x116)]) (st0 := [(.ref x119)]) (lenOf pd_AC_R_V rfl) rfl rfl (Nat.le_of_eq rfl) (by rw [hml]; rfl) (by decide) (by decide) (fun _ _ _ q => ⟨W.Frw.of_fr q.2.1 (Nat.le_refl _), CHr.keep q.2.2.1 (sfS Sx119 sf0) P119.chv⟩) d1_111 rfl ?_
    intro v120 T120 h120 L120 q120 P120
    obtain ⟨rfl, f120, K120, A120, C120, t120, k120, b120, c120, d120, F120, V120⟩ := q120
    show W.Go p.tables e below _ (T120.setTop (mkF m 114 #[.val (.int ba), .val (.int (ba &&& (255 : Int32))), .val (.int (Jvm.Free.XT.ushr ba (8 : Int32) &&& (255 : Int32))), .val (.int (Jvm.Free.XT.ushr ba (16 : Int32) &&& (255 : Int32))), .val (.int (2 : Int32)), .val (.ref x116)] [(.ref x119)]))
    have S120 : W.Str Z h120 x119 [(ba &&& 255), (own_c ba 8)] := ⟨t120, k120, _, _, _, A120, F120, C120, V120, StrChars.Road.codOf (cs := [(ba &&& 255), (own_c ba 8)]) (n := 2) rfl (fun c hc => (hp119 c hc).2), fun c hc => ⟨(hp119 c hc).1, own_up (hp119 c hc).2⟩, Nat.le_of_ble_eq_true rfl⟩
    exact P120.retAW hEL hlk hret rfl rfl rfl d1_114 (by decide) (by decide) ⟨x119, rfl, P120.fr, P120.ext0, by rw [own_cs, if_neg (by rw [en]; decide), if_neg (by rw [en]; decide), if_pos en]; exact S120⟩
  · show W.Go p.tables e below _ (s₁.setTop (mkF m 33 #[.val (.int ba), .val (.int (ba &&& (255 : Int32))), .val (.int (Jvm.Free.XT.ushr ba (8 : Int32) &&& (255 : Int32))), .val (.int (Jvm.Free.XT.ushr ba (16 : Int32) &&& (255 : Int32))), .unset, .unset] [(.int (3 : Int32))]))
    refine W.g_istore (pc1 := 35) (ls2 := #[.val (.int ba), .val (.int (ba &&& (255 : Int32))), .val (.int (Jvm.Free.XT.ushr ba (8 : Int32) &&& (255 : Int32))), .val (.int (Jvm.Free.XT.ushr ba (16 : Int32) &&& (255 : Int32))), .val (.int (3 : Int32)), .unset]) P0.q d1_33 rfl rfl ?_
    refine W.g_iload (pc1 := 37) P0.q d1_35 rfl rfl ?_
    refine W.g_ifY (pc1 := 48) P0.q d1_37 (by decide) rfl (by decide) ?_
    refine W.g_iload (pc1 := 50) P0.q d1_48 rfl rfl ?_
    refine W.g_iconst (pc1 := 51) (v := (1 : Int32)) P0.q d1_50 (by decide) rfl ?_
    refine W.g_cmpY (pc1 := 66) P0.q d1_51 (by decide) rfl (by decide) ?_
    refine W.g_iload (pc1 := 68) P0.q d1_66 rfl rfl ?_
    refine W.g_iconst (pc1 := 69) (v := (2 : Int32)) P0.q d1_68 (by decide) rfl ?_
    refine W.g_cmpY (pc1 := 88) P0.q d1_69 (by decide) rfl (by decide) ?_
    refine W.g_iconst (pc1 := 89) (v := (3 : Int32)) P0.q d1_88 (by decide) rfl ?_
    refine P0.newP (pc1 := 91) (cap := 3) (wd hw (k := 4) rfl) (by decide) (by decide) (by decide) (by decide) (by decide) d1_89 rfl ?_
    intro T121 h121 x121 k121 g121 P121 E121 V121
    refine W.g_dup (pc1 := 92) P121.q d1_91 rfl rfl ?_
    refine W.g_iconst (pc1 := 93) (v := (0 : Int32)) P121.q d1_92 (by decide) rfl ?_
    refine W.g_iloadN (pc1 := 94) P121.q d1_93 rfl rfl ?_
    refine P121.stC (pc1 := 95) (i := 0) V121 (by decide) (by decide) (Nat.le_of_ble_eq_true rfl) rfl (Or.inr (by rw [g121]; exact P0.sz)) (Safe.arv P121.al V121 (by decide)) d1_94 rfl ?_
    intro T122 h122 P122 W122 V122
    refine W.g_dup (pc1 := 96) P122.q d1_95 rfl rfl ?_
    refine W.g_iconst (pc1 := 97) (v := (1 : Int32)) P122.q d1_96 (by decide) rfl ?_
    refine W.g_iloadN (pc1 := 98) P122.q d1_97 rfl rfl ?_
    refine P122.stC (pc1 := 99) (i := 1) V122 (by decide) (by decide) (Nat.le_of_ble_eq_true rfl) rfl (Or.inr (by rw [g121]; exact P0.sz)) (Safe.arv P122.al V122 (by decide)) d1_98 rfl ?_
    intro T123 h123 P123 W123 V123
    refine W.g_dup (pc1 := 100) P123.q d1_99 rfl rfl ?_
    refine W.g_iconst (pc1 := 101) (v := (2 : Int32)) P123.q d1_100 (by decide) rfl ?_
    refine W.g_iloadN (pc1 := 102) P123.q d1_101 rfl rfl ?_
    refine P123.stC (pc1 := 103) (i := 2) V123 (by decide) (by decide) (Nat.le_of_ble_eq_true rfl) rfl (Or.inr (by rw [g121]; exact P0.sz)) (Safe.arv P123.al V123 (by decide)) d1_102 rfl ?_
    intro T124 h124 P124 W124 V124
    refine W.g_astore (pc1 := 105) (ls2 := #[.val (.int ba), .val (.int (ba &&& (255 : Int32))), .val (.int (Jvm.Free.XT.ushr ba (8 : Int32) &&& (255 : Int32))), .val (.int (Jvm.Free.XT.ushr ba (16 : Int32) &&& (255 : Int32))), .val (.int (3 : Int32)), .val (.ref x121)]) P124.q d1_103 rfl rfl rfl ?_
    refine P124.newO (pc1 := 108) (wd hw (k := 5) rfl) (wd hw (k := 6) rfl) (wd hw (k := 7) rfl) (by decide) (by decide) d1_105 rfl ?_
    intro T125 h125 x125 g125 P125 E125 A125 D125 U125
    refine W.g_dup (pc1 := 109) P125.q d1_108 rfl rfl ?_
    refine W.g_aload (pc1 := 111) P125.q d1_109 rfl rfl rfl ?_
    have Vv125 := V124.ext E125
    have Fv125 : Fld Z h125 x125 "java/lang/String" "value" "[B" .null := D125 (Or.inr (wd hw (k := 20) rfl)) (ty := .array .byte) (by decide)
    have Fc125 : Fld Z h125 x125 "java/lang/String" "coder" "B" (.int 0) := D125 (Or.inr (wd hw (k := 21) rfl)) (ty := .byte) (by decide)
    have Sx125 := Safe.ext (EL := ownEL) E125 P124.chv (Safe.new (Nat.le_of_eq g125.symm))
    simp only [List.replicate, List.set, own_nar255] at Vv125
    have hp125 : ∀ c ∈ ([(ba &&& 255), (own_c ba 8), (own_c ba 16)] : List Int32), ¬ c < 0 ∧ ¬ (255 : Int32) < c := fun c hc => by
        simp only [List.mem_cons, List.not_mem_nil, or_false] at hc
        first | (rcases hc with rfl | rfl | rfl <;> exact own_m255 _) | (rcases hc with rfl | rfl <;> exact own_m255 _) | (subst hc; exact own_m255 _)
    refine P125.callN (pc1 := 114) rfl (wd hw (k := 8) rfl) (wd hw (k := 9) rfl) (wd hw (k := 10) rfl) (by decide) (StrChars.Road.backV (W := 1) P125.hz hws (kI := 4) (wd hw (k := 6) rfl) (cs := [(ba &&& 255), (own_c ba 8), (own_c ba 16)]) (bs := ([(ba &&& 255), (own_c ba 8), (own_c ba 16)]).map (fun c => c.toInt8.toInt32)) (n := 3) (n0 := h0.size) (by rw [g125]; exact P124.sz) P125.sz A125 Fv125 Fc125 Vv125 (C0.ext (P125.extZ EZ all0)) hzc rfl rfl (by decide) (by decide) hp125 rfl (by decide) (by decide)) (argsL := [(.ref x121)]) (st0 := [(.ref x125)]) (lenOf pd_AC_R_V rfl) rfl rfl (Nat.le_of_eq rfl) (by rw [hml]; rfl) (by decide) (by decide) (fun _ _ _ q => ⟨W.Frw.of_fr q.2.1 (Nat.le_refl _), CHr.keep q.2.2.1 (sfS Sx125 sf0) P125.chv⟩) d1_111 rfl ?_
    intro v126 T126 h126 L126 q126 P126
    obtain ⟨rfl, f126, K126, A126, C126, t126, k126, b126, c126, d126, F126, V126⟩ := q126
    show W.Go p.tables e below _ (T126.setTop (mkF m 114 #[.val (.int ba), .val (.int (ba &&& (255 : Int32))), .val (.int (Jvm.Free.XT.ushr ba (8 : Int32) &&& (255 : Int32))), .val (.int (Jvm.Free.XT.ushr ba (16 : Int32) &&& (255 : Int32))), .val (.int (3 : Int32)), .val (.ref x121)] [(.ref x125)]))
    have S126 : W.Str Z h126 x125 [(ba &&& 255), (own_c ba 8), (own_c ba 16)] := ⟨t126, k126, _, _, _, A126, F126, C126, V126, StrChars.Road.codOf (cs := [(ba &&& 255), (own_c ba 8), (own_c ba 16)]) (n := 3) rfl (fun c hc => (hp125 c hc).2), fun c hc => ⟨(hp125 c hc).1, own_up (hp125 c hc).2⟩, Nat.le_of_ble_eq_true rfl⟩
    exact P126.retAW hEL hlk hret rfl rfl rfl d1_114 (by decide) (by decide) ⟨x125, rfl, P126.fr, P126.ext0, by rw [own_cs, if_neg (by rw [en]; decide), if_neg (by rw [en]; decide), if_neg (by rw [en]; decide)]; exact S126⟩
set_option maxRecDepth 65536 in
set_option maxHeartbeats 40000000 in
theorem c_eqSelf (l : Launch) (Z : State) (a0 : Array Value) (hw : ∀ d ∈ tables_1, d.before a0 Z = true) (x : Addr) (h0 : Heap) : W.MetN l Z (⟨"java/lang/String", "equals", "(Ljava/lang/Object;)Z"⟩ : MethodName) jdk_42_method_66_code 3 ((Option.some Jvm.ClassFile.FieldType.boolean)) [] ({ frames := 0, cells := 0, slots := 0, locals := 0 } : Room) #[.ref x, .ref x]  h0 (W.Pure (some (.int 1)) h0) := by
  refine W.MetN.mk (ls0 := #[.val (.ref x), .val (.ref x), .unset]) [] (plainFor_of_name pn_java_lang_String) (fun m => by first | (simp [entryFrame, mkF, argsToLocals, Value.category]; done) | rfl) ?_
  intro p e s m below meth c s₁ hml hret hnm hlk P0
  show W.Go p.tables e below _ (s₁.setTop (mkF m 0 #[.val (.ref x), .val (.ref x), .unset] []))
  refine W.g_aloadN (pc1 := 1) P0.q d9_0 rfl rfl rfl ?_
  refine W.g_aloadN (pc1 := 2) P0.q d9_1 rfl rfl rfl ?_
  refine W.g_acmpN (pc2 := 5) P0.q d9_2 rfl rfl rfl (by simp [Jvm.Free.XT.acmp]) ?_
  refine W.g_iconst (pc1 := 6) (v := (1 : Int32)) P0.q d9_5 (by decide) rfl ?_
  exact P0.retVN hlk hret (Or.inl rfl) d9_6 (by decide) (by decide) ⟨rfl, rfl, rfl⟩
abbrev rmNN : Room := ({ frames := 0, cells := 0, slots := 0, locals := 0 } : Room)
set_option maxRecDepth 65536 in
set_option maxHeartbeats 40000000 in
theorem reqnn (l : Launch) (Z : State) (x y : Addr) (h0 : Heap) : W.MetN l Z (⟨"java/util/Objects", "requireNonNull", "(Ljava/lang/Object;Ljava/lang/String;)Ljava/lang/Object;"⟩ : MethodName) jdk_31_method_11_code 2 (some (.object "java/lang/Object")) [] rmNN #[.ref x, .ref y] h0 (W.Pure (some (.ref x)) h0) := by
  refine W.MetN.mk (ls0 := #[.val (.ref x), .val (.ref y)]) [] (plainFor_of_name pn_java_util_Objects) (fun m => by first | (simp [entryFrame, mkF, argsToLocals, Value.category]; done) | rfl) ?_
  intro p e s m below meth c s₁ hml hret hnm hlk P0
  show W.Go p.tables e below _ (s₁.setTop (mkF m 0 #[.val (.ref x), .val (.ref y)] []))
  refine W.g_aloadN (pc1 := 1) P0.q d6_0 rfl rfl rfl ?_
  refine W.g_nonY (pc1 := 13) P0.q d6_1 (by decide) rfl ?_
  refine W.g_aloadN (pc1 := 14) P0.q d6_13 rfl rfl rfl ?_
  exact P0.retAN hlk hret rfl rfl rfl d6_14 (by decide) (by decide) ⟨rfl, rfl, rfl⟩
def QJ (Z : State) (x q y : Addr) (pr ma : Int32) (dl : Value) (h0 : Heap) (v : Option Value) (h : Heap) (L : List Loc) : Prop := v = none ∧ W.Frw [x] h0.size L ∧ Keep h0 h [x] ∧ Exa Z h x "com/example/tables_as_queues/tablesasqueues/NewJob" ∧ Fld Z h x "com/example/tables_as_queues/tablesasqueues/NewJob" "queue" "Ljava/lang/String;" (.ref q) ∧ Fld Z h x "com/example/tables_as_queues/tablesasqueues/NewJob" "payload" "Ljava/lang/String;" (.ref y) ∧ Fld Z h x "com/example/tables_as_queues/tablesasqueues/NewJob" "priority" "I" (.int pr) ∧ Fld Z h x "com/example/tables_as_queues/tablesasqueues/NewJob" "runAt" "Ljava/time/Instant;" .null ∧ Fld Z h x "com/example/tables_as_queues/tablesasqueues/NewJob" "delay" "Ljava/time/Duration;" dl ∧ Fld Z h x "com/example/tables_as_queues/tablesasqueues/NewJob" "maxAttempts" "I" (.int ma) ∧ Fld Z h x "com/example/tables_as_queues/tablesasqueues/NewJob" "idempotencyKey" "Ljava/lang/String;" .null
abbrev rmJob : Room := ({ frames := 1, cells := 0, slots := 0, locals := 14 } : Room)
set_option maxRecDepth 65536 in
set_option maxHeartbeats 40000000 in
theorem c_job (l : Launch) (Z : State) (a0 : Array Value) (hw : ∀ d ∈ tables_1, d.before a0 Z = true) (x q y : Addr) (pr ma : Int32) (dl : Value) (hdl : dl.isRef = true) (h0 : Heap) (E0 : Exa Z h0 x "com/example/tables_as_queues/tablesasqueues/NewJob") (vqueue : Value) (Fqueue : Fld Z h0 x "com/example/tables_as_queues/tablesasqueues/NewJob" "queue" "Ljava/lang/String;" vqueue) (vpayload : Value) (Fpayload : Fld Z h0 x "com/example/tables_as_queues/tablesasqueues/NewJob" "payload" "Ljava/lang/String;" vpayload) (vpriority : Value) (Fpriority : Fld Z h0 x "com/example/tables_as_queues/tablesasqueues/NewJob" "priority" "I" vpriority) (vrunAt : Value) (FrunAt : Fld Z h0 x "com/example/tables_as_queues/tablesasqueues/NewJob" "runAt" "Ljava/time/Instant;" vrunAt) (vdelay : Value) (Fdelay : Fld Z h0 x "com/example/tables_as_queues/tablesasqueues/NewJob" "delay" "Ljava/time/Duration;" vdelay) (vmaxAttempts : Value) (FmaxAttempts : Fld Z h0 x "com/example/tables_as_queues/tablesasqueues/NewJob" "maxAttempts" "I" vmaxAttempts) (vidempotencyKey : Value) (FidempotencyKey : Fld Z h0 x "com/example/tables_as_queues/tablesasqueues/NewJob" "idempotencyKey" "Ljava/lang/String;" vidempotencyKey) : W.MetN l Z (⟨"com/example/tables_as_queues/tablesasqueues/NewJob", "<init>", "(Ljava/lang/String;Ljava/lang/String;ILjava/time/Instant;Ljava/time/Duration;ILjava/lang/String;)V"⟩ : MethodName) prog_12_method_1_code 8 ((Option.none : Option Jvm.ClassFile.FieldType)) [] rmJob #[.ref x, .ref q, .ref y, .int pr, .null, dl, .int ma, .null]  h0 (QJ Z x q y pr ma dl h0) := by
  refine W.MetN.mk (ls0 := #[.val (.ref x), .val (.ref q), .val (.ref y), .val (.int pr), .val .null, .val dl, .val (.int ma), .val .null]) [x] (plainFor_of_name pn_com_example_tables_as_queues_tablesasqueues_NewJob) (fun m => by rcases ref_cases hdl with q | ⟨z, q⟩ <;> subst q <;> rfl) ?_
  intro p e s m below meth c s₁ hml hret hnm hlk P0
  show W.Go p.tables e below _ (s₁.setTop (mkF m 0 #[.val (.ref x), .val (.ref q), .val (.ref y), .val (.int pr), .val .null, .val dl, .val (.int ma), .val .null] []))
  refine W.g_aloadN (pc1 := 1) P0.q d7_0 rfl rfl rfl ?_
  refine P0.initO (pc1 := 4) (W := 0) (wd hw (k := 44) rfl) (wd hw (k := 16) rfl) (wd hw (k := 17) rfl) (by rw [hml]; rfl) (by decide) (Nat.le_of_eq rfl) (by decide) d7_1 rfl ?_
  intro T127 P127
  refine W.g_aloadN (pc1 := 5) P127.q d7_4 rfl rfl rfl ?_
  refine W.g_aloadN (pc1 := 6) P127.q d7_5 rfl rfl rfl ?_
  refine P127.putF (host := "") (pc1 := 9) (Or.inl (wd hw (k := 45) rfl)) Via.refl Fqueue E0 (Or.inr ⟨(wd hw (k := 46) rfl), rfl, hnm⟩) (wd hw (k := 31) rfl) (ty := (.object "java/lang/String")) (by decide) rfl rfl (Or.inl (List.mem_singleton.mpr rfl)) (Safe.exa P127.al E0 (by decide) (by decide)) d7_6 rfl ?_
  intro T128 h128 P128 W128
  have G128_queue := Fqueue.same W128
  have G128_payload := Fpayload.other W128 (Or.inr (slot_ne (t := (.object "java/lang/String")) (t' := (.object "java/lang/String")) (Or.inr (wd hw (k := 48) rfl)) (Or.inr (wd hw (k := 46) rfl)) (by decide) (by decide) (by decide)))
  have G128_priority := Fpriority.other W128 (Or.inr (slot_ne (t := .int) (t' := (.object "java/lang/String")) (Or.inr (wd hw (k := 50) rfl)) (Or.inr (wd hw (k := 46) rfl)) (by decide) (by decide) (by decide)))
  have G128_runAt := FrunAt.other W128 (Or.inr (slot_ne (t := (.object "java/time/Instant")) (t' := (.object "java/lang/String")) (Or.inr (wd hw (k := 52) rfl)) (Or.inr (wd hw (k := 46) rfl)) (by decide) (by decide) (by decide)))
  have G128_delay := Fdelay.other W128 (Or.inr (slot_ne (t := (.object "java/time/Duration")) (t' := (.object "java/lang/String")) (Or.inr (wd hw (k := 54) rfl)) (Or.inr (wd hw (k := 46) rfl)) (by decide) (by decide) (by decide)))
  have G128_maxAttempts := FmaxAttempts.other W128 (Or.inr (slot_ne (t := .int) (t' := (.object "java/lang/String")) (Or.inr (wd hw (k := 56) rfl)) (Or.inr (wd hw (k := 46) rfl)) (by decide) (by decide) (by decide)))
  have G128_idempotencyKey := FidempotencyKey.other W128 (Or.inr (slot_ne (t := (.object "java/lang/String")) (t' := (.object "java/lang/String")) (Or.inr (wd hw (k := 58) rfl)) (Or.inr (wd hw (k := 46) rfl)) (by decide) (by decide) (by decide)))
  have EE128 := E0.wr W128
  refine W.g_aloadN (pc1 := 10) P128.q d7_9 rfl rfl rfl ?_
  refine W.g_aloadN (pc1 := 11) P128.q d7_10 rfl rfl rfl ?_
  refine P128.putF (host := "") (pc1 := 14) (Or.inl (wd hw (k := 47) rfl)) Via.refl G128_payload EE128 (Or.inr ⟨(wd hw (k := 48) rfl), rfl, hnm⟩) (wd hw (k := 31) rfl) (ty := (.object "java/lang/String")) (by decide) rfl rfl (Or.inl (List.mem_singleton.mpr rfl)) (Safe.exa P128.al EE128 (by decide) (by decide)) d7_11 rfl ?_
  intro T129 h129 P129 W129
  have G129_queue := G128_queue.other W129 (Or.inr (slot_ne (t := (.object "java/lang/String")) (t' := (.object "java/lang/String")) (Or.inr (wd hw (k := 46) rfl)) (Or.inr (wd hw (k := 48) rfl)) (by decide) (by decide) (by decide)))
  have G129_payload := G128_payload.same W129
  have G129_priority := G128_priority.other W129 (Or.inr (slot_ne (t := .int) (t' := (.object "java/lang/String")) (Or.inr (wd hw (k := 50) rfl)) (Or.inr (wd hw (k := 48) rfl)) (by decide) (by decide) (by decide)))
  have G129_runAt := G128_runAt.other W129 (Or.inr (slot_ne (t := (.object "java/time/Instant")) (t' := (.object "java/lang/String")) (Or.inr (wd hw (k := 52) rfl)) (Or.inr (wd hw (k := 48) rfl)) (by decide) (by decide) (by decide)))
  have G129_delay := G128_delay.other W129 (Or.inr (slot_ne (t := (.object "java/time/Duration")) (t' := (.object "java/lang/String")) (Or.inr (wd hw (k := 54) rfl)) (Or.inr (wd hw (k := 48) rfl)) (by decide) (by decide) (by decide)))
  have G129_maxAttempts := G128_maxAttempts.other W129 (Or.inr (slot_ne (t := .int) (t' := (.object "java/lang/String")) (Or.inr (wd hw (k := 56) rfl)) (Or.inr (wd hw (k := 48) rfl)) (by decide) (by decide) (by decide)))
  have G129_idempotencyKey := G128_idempotencyKey.other W129 (Or.inr (slot_ne (t := (.object "java/lang/String")) (t' := (.object "java/lang/String")) (Or.inr (wd hw (k := 58) rfl)) (Or.inr (wd hw (k := 48) rfl)) (by decide) (by decide) (by decide)))
  have EE129 := EE128.wr W129
  refine W.g_aloadN (pc1 := 15) P129.q d7_14 rfl rfl rfl ?_
  refine W.g_iloadN (pc1 := 16) P129.q d7_15 rfl rfl ?_
  refine P129.putF (host := "") (pc1 := 19) (Or.inl (wd hw (k := 49) rfl)) Via.refl G129_priority EE129 (Or.inr ⟨(wd hw (k := 50) rfl), rfl, hnm⟩) (wd hw (k := 31) rfl) (ty := .int) (by decide) rfl rfl (Or.inl (List.mem_singleton.mpr rfl)) (Safe.exa P129.al EE129 (by decide) (by decide)) d7_16 rfl ?_
  intro T130 h130 P130 W130
  have G130_queue := G129_queue.other W130 (Or.inr (slot_ne (t := (.object "java/lang/String")) (t' := .int) (Or.inr (wd hw (k := 46) rfl)) (Or.inr (wd hw (k := 50) rfl)) (by decide) (by decide) (by decide)))
  have G130_payload := G129_payload.other W130 (Or.inr (slot_ne (t := (.object "java/lang/String")) (t' := .int) (Or.inr (wd hw (k := 48) rfl)) (Or.inr (wd hw (k := 50) rfl)) (by decide) (by decide) (by decide)))
  have G130_priority := G129_priority.same W130
  have G130_runAt := G129_runAt.other W130 (Or.inr (slot_ne (t := (.object "java/time/Instant")) (t' := .int) (Or.inr (wd hw (k := 52) rfl)) (Or.inr (wd hw (k := 50) rfl)) (by decide) (by decide) (by decide)))
  have G130_delay := G129_delay.other W130 (Or.inr (slot_ne (t := (.object "java/time/Duration")) (t' := .int) (Or.inr (wd hw (k := 54) rfl)) (Or.inr (wd hw (k := 50) rfl)) (by decide) (by decide) (by decide)))
  have G130_maxAttempts := G129_maxAttempts.other W130 (Or.inr (slot_ne (t := .int) (t' := .int) (Or.inr (wd hw (k := 56) rfl)) (Or.inr (wd hw (k := 50) rfl)) (by decide) (by decide) (by decide)))
  have G130_idempotencyKey := G129_idempotencyKey.other W130 (Or.inr (slot_ne (t := (.object "java/lang/String")) (t' := .int) (Or.inr (wd hw (k := 58) rfl)) (Or.inr (wd hw (k := 50) rfl)) (by decide) (by decide) (by decide)))
  have EE130 := EE129.wr W130
  refine W.g_aloadN (pc1 := 20) P130.q d7_19 rfl rfl rfl ?_
  refine W.g_aload (pc1 := 22) P130.q d7_20 rfl rfl rfl ?_
  refine P130.putF (host := "") (pc1 := 25) (Or.inl (wd hw (k := 51) rfl)) Via.refl G130_runAt EE130 (Or.inr ⟨(wd hw (k := 52) rfl), rfl, hnm⟩) (wd hw (k := 31) rfl) (ty := (.object "java/time/Instant")) (by decide) rfl rfl (Or.inl (List.mem_singleton.mpr rfl)) (Safe.exa P130.al EE130 (by decide) (by decide)) d7_22 rfl ?_
  intro T131 h131 P131 W131
  have G131_queue := G130_queue.other W131 (Or.inr (slot_ne (t := (.object "java/lang/String")) (t' := (.object "java/time/Instant")) (Or.inr (wd hw (k := 46) rfl)) (Or.inr (wd hw (k := 52) rfl)) (by decide) (by decide) (by decide)))
  have G131_payload := G130_payload.other W131 (Or.inr (slot_ne (t := (.object "java/lang/String")) (t' := (.object "java/time/Instant")) (Or.inr (wd hw (k := 48) rfl)) (Or.inr (wd hw (k := 52) rfl)) (by decide) (by decide) (by decide)))
  have G131_priority := G130_priority.other W131 (Or.inr (slot_ne (t := .int) (t' := (.object "java/time/Instant")) (Or.inr (wd hw (k := 50) rfl)) (Or.inr (wd hw (k := 52) rfl)) (by decide) (by decide) (by decide)))
  have G131_runAt := G130_runAt.same W131
  have G131_delay := G130_delay.other W131 (Or.inr (slot_ne (t := (.object "java/time/Duration")) (t' := (.object "java/time/Instant")) (Or.inr (wd hw (k := 54) rfl)) (Or.inr (wd hw (k := 52) rfl)) (by decide) (by decide) (by decide)))
  have G131_maxAttempts := G130_maxAttempts.other W131 (Or.inr (slot_ne (t := .int) (t' := (.object "java/time/Instant")) (Or.inr (wd hw (k := 56) rfl)) (Or.inr (wd hw (k := 52) rfl)) (by decide) (by decide) (by decide)))
  have G131_idempotencyKey := G130_idempotencyKey.other W131 (Or.inr (slot_ne (t := (.object "java/lang/String")) (t' := (.object "java/time/Instant")) (Or.inr (wd hw (k := 58) rfl)) (Or.inr (wd hw (k := 52) rfl)) (by decide) (by decide) (by decide)))
  have EE131 := EE130.wr W131
  refine W.g_aloadN (pc1 := 26) P131.q d7_25 rfl rfl rfl ?_
  refine W.g_aload (pc1 := 28) P131.q d7_26 rfl hdl rfl ?_
  refine P131.putF (host := "") (pc1 := 31) (Or.inl (wd hw (k := 53) rfl)) Via.refl G131_delay EE131 (Or.inr ⟨(wd hw (k := 54) rfl), rfl, hnm⟩) (wd hw (k := 31) rfl) (ty := (.object "java/time/Duration")) (by decide) (own_rf hdl).1 (own_rf hdl).2 (Or.inl (List.mem_singleton.mpr rfl)) (Safe.exa P131.al EE131 (by decide) (by decide)) d7_28 rfl ?_
  intro T132 h132 P132 W132
  have G132_queue := G131_queue.other W132 (Or.inr (slot_ne (t := (.object "java/lang/String")) (t' := (.object "java/time/Duration")) (Or.inr (wd hw (k := 46) rfl)) (Or.inr (wd hw (k := 54) rfl)) (by decide) (by decide) (by decide)))
  have G132_payload := G131_payload.other W132 (Or.inr (slot_ne (t := (.object "java/lang/String")) (t' := (.object "java/time/Duration")) (Or.inr (wd hw (k := 48) rfl)) (Or.inr (wd hw (k := 54) rfl)) (by decide) (by decide) (by decide)))
  have G132_priority := G131_priority.other W132 (Or.inr (slot_ne (t := .int) (t' := (.object "java/time/Duration")) (Or.inr (wd hw (k := 50) rfl)) (Or.inr (wd hw (k := 54) rfl)) (by decide) (by decide) (by decide)))
  have G132_runAt := G131_runAt.other W132 (Or.inr (slot_ne (t := (.object "java/time/Instant")) (t' := (.object "java/time/Duration")) (Or.inr (wd hw (k := 52) rfl)) (Or.inr (wd hw (k := 54) rfl)) (by decide) (by decide) (by decide)))
  have G132_delay := G131_delay.same W132
  have G132_maxAttempts := G131_maxAttempts.other W132 (Or.inr (slot_ne (t := .int) (t' := (.object "java/time/Duration")) (Or.inr (wd hw (k := 56) rfl)) (Or.inr (wd hw (k := 54) rfl)) (by decide) (by decide) (by decide)))
  have G132_idempotencyKey := G131_idempotencyKey.other W132 (Or.inr (slot_ne (t := (.object "java/lang/String")) (t' := (.object "java/time/Duration")) (Or.inr (wd hw (k := 58) rfl)) (Or.inr (wd hw (k := 54) rfl)) (by decide) (by decide) (by decide)))
  have EE132 := EE131.wr W132
  refine W.g_aloadN (pc1 := 32) P132.q d7_31 rfl rfl rfl ?_
  refine W.g_iload (pc1 := 34) P132.q d7_32 rfl rfl ?_
  refine P132.putF (host := "") (pc1 := 37) (Or.inl (wd hw (k := 55) rfl)) Via.refl G132_maxAttempts EE132 (Or.inr ⟨(wd hw (k := 56) rfl), rfl, hnm⟩) (wd hw (k := 31) rfl) (ty := .int) (by decide) rfl rfl (Or.inl (List.mem_singleton.mpr rfl)) (Safe.exa P132.al EE132 (by decide) (by decide)) d7_34 rfl ?_
  intro T133 h133 P133 W133
  have G133_queue := G132_queue.other W133 (Or.inr (slot_ne (t := (.object "java/lang/String")) (t' := .int) (Or.inr (wd hw (k := 46) rfl)) (Or.inr (wd hw (k := 56) rfl)) (by decide) (by decide) (by decide)))
  have G133_payload := G132_payload.other W133 (Or.inr (slot_ne (t := (.object "java/lang/String")) (t' := .int) (Or.inr (wd hw (k := 48) rfl)) (Or.inr (wd hw (k := 56) rfl)) (by decide) (by decide) (by decide)))
  have G133_priority := G132_priority.other W133 (Or.inr (slot_ne (t := .int) (t' := .int) (Or.inr (wd hw (k := 50) rfl)) (Or.inr (wd hw (k := 56) rfl)) (by decide) (by decide) (by decide)))
  have G133_runAt := G132_runAt.other W133 (Or.inr (slot_ne (t := (.object "java/time/Instant")) (t' := .int) (Or.inr (wd hw (k := 52) rfl)) (Or.inr (wd hw (k := 56) rfl)) (by decide) (by decide) (by decide)))
  have G133_delay := G132_delay.other W133 (Or.inr (slot_ne (t := (.object "java/time/Duration")) (t' := .int) (Or.inr (wd hw (k := 54) rfl)) (Or.inr (wd hw (k := 56) rfl)) (by decide) (by decide) (by decide)))
  have G133_maxAttempts := G132_maxAttempts.same W133
  have G133_idempotencyKey := G132_idempotencyKey.other W133 (Or.inr (slot_ne (t := (.object "java/lang/String")) (t' := .int) (Or.inr (wd hw (k := 58) rfl)) (Or.inr (wd hw (k := 56) rfl)) (by decide) (by decide) (by decide)))
  have EE133 := EE132.wr W133
  refine W.g_aloadN (pc1 := 38) P133.q d7_37 rfl rfl rfl ?_
  refine W.g_aload (pc1 := 40) P133.q d7_38 rfl rfl rfl ?_
  refine P133.putF (host := "") (pc1 := 43) (Or.inl (wd hw (k := 57) rfl)) Via.refl G133_idempotencyKey EE133 (Or.inr ⟨(wd hw (k := 58) rfl), rfl, hnm⟩) (wd hw (k := 31) rfl) (ty := (.object "java/lang/String")) (by decide) rfl rfl (Or.inl (List.mem_singleton.mpr rfl)) (Safe.exa P133.al EE133 (by decide) (by decide)) d7_40 rfl ?_
  intro T134 h134 P134 W134
  have G134_queue := G133_queue.other W134 (Or.inr (slot_ne (t := (.object "java/lang/String")) (t' := (.object "java/lang/String")) (Or.inr (wd hw (k := 46) rfl)) (Or.inr (wd hw (k := 58) rfl)) (by decide) (by decide) (by decide)))
  have G134_payload := G133_payload.other W134 (Or.inr (slot_ne (t := (.object "java/lang/String")) (t' := (.object "java/lang/String")) (Or.inr (wd hw (k := 48) rfl)) (Or.inr (wd hw (k := 58) rfl)) (by decide) (by decide) (by decide)))
  have G134_priority := G133_priority.other W134 (Or.inr (slot_ne (t := .int) (t' := (.object "java/lang/String")) (Or.inr (wd hw (k := 50) rfl)) (Or.inr (wd hw (k := 58) rfl)) (by decide) (by decide) (by decide)))
  have G134_runAt := G133_runAt.other W134 (Or.inr (slot_ne (t := (.object "java/time/Instant")) (t' := (.object "java/lang/String")) (Or.inr (wd hw (k := 52) rfl)) (Or.inr (wd hw (k := 58) rfl)) (by decide) (by decide) (by decide)))
  have G134_delay := G133_delay.other W134 (Or.inr (slot_ne (t := (.object "java/time/Duration")) (t' := (.object "java/lang/String")) (Or.inr (wd hw (k := 54) rfl)) (Or.inr (wd hw (k := 58) rfl)) (by decide) (by decide) (by decide)))
  have G134_maxAttempts := G133_maxAttempts.other W134 (Or.inr (slot_ne (t := .int) (t' := (.object "java/lang/String")) (Or.inr (wd hw (k := 56) rfl)) (Or.inr (wd hw (k := 58) rfl)) (by decide) (by decide) (by decide)))
  have G134_idempotencyKey := G133_idempotencyKey.same W134
  have EE134 := EE133.wr W134
  exact P134.retN hlk hret d7_43 (by decide) (by decide) ⟨rfl, P134.fr, P134.keep, EE134, G134_queue, G134_payload, G134_priority, G134_runAt, G134_delay, G134_maxAttempts, G134_idempotencyKey⟩
def QO (Z : State) (q y : Addr) (dl : Value) (h0 : Heap) (v : Option Value) (h : Heap) (L : List Loc) : Prop := ∃ x, v = some (.ref x) ∧ W.Frw [] h0.size L ∧ Ext h0 h ∧ Exa Z h x "com/example/tables_as_queues/tablesasqueues/NewJob" ∧ Fld Z h x "com/example/tables_as_queues/tablesasqueues/NewJob" "queue" "Ljava/lang/String;" (.ref q) ∧ Fld Z h x "com/example/tables_as_queues/tablesasqueues/NewJob" "payload" "Ljava/lang/String;" (.ref y) ∧ Fld Z h x "com/example/tables_as_queues/tablesasqueues/NewJob" "priority" "I" (.int 0) ∧ Fld Z h x "com/example/tables_as_queues/tablesasqueues/NewJob" "runAt" "Ljava/time/Instant;" .null ∧ Fld Z h x "com/example/tables_as_queues/tablesasqueues/NewJob" "delay" "Ljava/time/Duration;" dl ∧ Fld Z h x "com/example/tables_as_queues/tablesasqueues/NewJob" "maxAttempts" "I" (.int 10) ∧ Fld Z h x "com/example/tables_as_queues/tablesasqueues/NewJob" "idempotencyKey" "Ljava/lang/String;" .null
abbrev rmOf : Room := ({ frames := 2, cells := 5, slots := 63, locals := 60 } : Room)
set_option maxRecDepth 65536 in
set_option maxHeartbeats 40000000 in
theorem c_of (l : Launch) (Z : State) (a0 : Array Value) (hw : ∀ d ∈ tables_1, d.before a0 Z = true) (wS : ∀ a ∈ Bundle.stringAtoms, a.before a0 Z = true) (hEL : EW Z a0 ownEL) (q y : Addr) (cq cy : List Int32) (h0 : Heap) (EZ : Ext Z.heap h0) (dl : Value) (hdl : dl.isRef = true) (D0 : Sta Z Z.heap "java/time/Duration" "ZERO" "Ljava/time/Duration;" dl) (Sq : W.Str Z h0 q cq) (Sy : W.Str Z h0 y cy) : W.MetW l Z ownEL (⟨"com/example/tables_as_queues/tablesasqueues/NewJob", "of", "(Ljava/lang/String;Ljava/lang/String;)Lcom/example/tables_as_queues/tablesasqueues/NewJob;"⟩ : MethodName) prog_12_method_2_code 2 ((Option.some (Jvm.ClassFile.FieldType.object "com/example/tables_as_queues/tablesasqueues/NewJob"))) [] rmOf #[.ref q, .ref y] [] h0 (QO Z q y dl h0) := by
  refine W.MetW.mk (ls0 := #[.val (.ref q), .val (.ref y)]) [] (plainFor_of_name pn_com_example_tables_as_queues_tablesasqueues_NewJob) (fun m => by first | (simp [entryFrame, mkF, argsToLocals, Value.category]; done) | rfl) ?_
  intro p e s m below meth c s₁ hml hret hnm hlk hss P0
  show W.Go p.tables e below _ (s₁.setTop (mkF m 0 #[.val (.ref q), .val (.ref y)] []))
  refine P0.newO (pc1 := 3) (wd hw (k := 30) rfl) (wd hw (k := 31) rfl) (wd hw (k := 28) rfl) (by decide) (by decide) d5_0 rfl ?_
  intro T135 h135 x135 g135 P135 E135 A135 D135 U135
  have Nqueue : Fld Z h135 x135 "com/example/tables_as_queues/tablesasqueues/NewJob" "queue" "Ljava/lang/String;" .null := D135 (Or.inr (wd hw (k := 46) rfl)) (ty := (.object "java/lang/String")) (by decide)
  have Npayload : Fld Z h135 x135 "com/example/tables_as_queues/tablesasqueues/NewJob" "payload" "Ljava/lang/String;" .null := D135 (Or.inr (wd hw (k := 48) rfl)) (ty := (.object "java/lang/String")) (by decide)
  have Npriority : Fld Z h135 x135 "com/example/tables_as_queues/tablesasqueues/NewJob" "priority" "I" (.int 0) := D135 (Or.inr (wd hw (k := 50) rfl)) (ty := .int) (by decide)
  have NrunAt : Fld Z h135 x135 "com/example/tables_as_queues/tablesasqueues/NewJob" "runAt" "Ljava/time/Instant;" .null := D135 (Or.inr (wd hw (k := 52) rfl)) (ty := (.object "java/time/Instant")) (by decide)
  have Ndelay : Fld Z h135 x135 "com/example/tables_as_queues/tablesasqueues/NewJob" "delay" "Ljava/time/Duration;" .null := D135 (Or.inr (wd hw (k := 54) rfl)) (ty := (.object "java/time/Duration")) (by decide)
  have NmaxAttempts : Fld Z h135 x135 "com/example/tables_as_queues/tablesasqueues/NewJob" "maxAttempts" "I" (.int 0) := D135 (Or.inr (wd hw (k := 56) rfl)) (ty := .int) (by decide)
  have NidempotencyKey : Fld Z h135 x135 "com/example/tables_as_queues/tablesasqueues/NewJob" "idempotencyKey" "Ljava/lang/String;" .null := D135 (Or.inr (wd hw (k := 58) rfl)) (ty := (.object "java/lang/String")) (by decide)
  refine W.g_dup (pc1 := 4) P135.q d5_3 rfl rfl ?_
  refine W.g_aloadN (pc1 := 5) P135.q d5_4 rfl rfl rfl ?_
  refine P135.ldcO (pc1 := 7) (n := 20) (wd hw (k := 32) rfl) wS hEL (by decide) (by decide) (by decide) (by decide) d5_5 rfl ?_
  intro a136 T136 h136 P136 E136 R136 L136
  refine P136.callS (pc1 := 10) (wd hw (k := 33) rfl) (wd hw (k := 34) rfl) (wd hw (k := 35) rfl) (wd hw (k := 36) rfl) (by decide) (W.MetN.pay (W := 2) (reqnn l Z q a136 h136) P136 (wd hw (k := 36) rfl) (wd hw (k := 35) rfl) (by decide) (by decide)) (argsL := [(.ref q), (.ref a136)]) (st0 := [(.ref x135), (.ref x135)]) (lenOf pd_Ljava_lang_ObjectLjava_lang_String_R_Ljava_lang_Object rfl) rfl rfl (Nat.le_of_eq rfl) (by rw [hml]; rfl) (by decide) (by decide) (W.Pure.ok P136.chv) d5_7 rfl ?_
  intro v137 T137 h137 L137 q137 P137
  obtain ⟨rfl, rfl, rfl⟩ := q137
  show W.Go p.tables e below _ (T137.setTop (mkF m 10 #[.val (.ref q), .val (.ref y)] [(.ref q), (.ref x135), (.ref x135)]))
  refine P137.castY (pc1 := 13) (wd hw (k := 37) rfl) (Ins.of_exa (Sq.exa.ext (W.Ext.trans E135 E136)) (wd hw (k := 13) rfl)) d5_10 rfl ?_
  intro T138 P138
  refine W.g_aloadN (pc1 := 14) P138.q d5_13 rfl rfl rfl ?_
  refine P138.ldcO (pc1 := 16) (n := 28) (wd hw (k := 38) rfl) wS hEL (by decide) (by decide) (by decide) (by decide) d5_14 rfl ?_
  intro a139 T139 h139 P139 E139 R139 L139
  refine P139.callS (pc1 := 19) (wd hw (k := 33) rfl) (wd hw (k := 34) rfl) (wd hw (k := 35) rfl) (wd hw (k := 36) rfl) (by decide) (W.MetN.pay (W := 3) (reqnn l Z y a139 h139) P139 (wd hw (k := 36) rfl) (wd hw (k := 35) rfl) (by decide) (by decide)) (argsL := [(.ref y), (.ref a139)]) (st0 := [(.ref q), (.ref x135), (.ref x135)]) (lenOf pd_Ljava_lang_ObjectLjava_lang_String_R_Ljava_lang_Object rfl) rfl rfl (Nat.le_of_eq rfl) (by rw [hml]; rfl) (by decide) (by decide) (W.Pure.ok P139.chv) d5_16 rfl ?_
  intro v140 T140 h140 L140 q140 P140
  obtain ⟨rfl, rfl, rfl⟩ := q140
  show W.Go p.tables e below _ (T140.setTop (mkF m 19 #[.val (.ref q), .val (.ref y)] [(.ref y), (.ref q), (.ref x135), (.ref x135)]))
  refine P140.castY (pc1 := 22) (wd hw (k := 37) rfl) (Ins.of_exa (Sy.exa.ext (W.Ext.trans (W.Ext.trans E135 E136) E139)) (wd hw (k := 13) rfl)) d5_19 rfl ?_
  intro T141 P141
  refine W.g_iconst (pc1 := 23) (v := (0 : Int32)) P141.q d5_22 (by decide) rfl ?_
  refine W.g_null (pc1 := 24) P141.q d5_23 rfl ?_
  refine P141.getS (pc1 := 27) (wd hw (k := 39) rfl) Via.refl (D0.ext (P141.extZ EZ all0)) d5_24 rfl ?_
  intro T142 P142
  refine W.g_bipush (pc1 := 29) (v := (10 : Int32)) P142.q d5_27 (by decide) rfl ?_
  refine W.g_null (pc1 := 30) P142.q d5_29 rfl ?_
  refine P142.callN (pc1 := 33) rfl (wd hw (k := 41) rfl) (wd hw (k := 42) rfl) (wd hw (k := 43) rfl) (by decide) (W.MetN.pay (W := 1) (c_job l Z a0 hw x135 q y 0 10 dl hdl h139 (A135.ext (W.Ext.trans E136 E139)) _ (Nqueue.ext (W.Ext.trans E136 E139)) _ (Npayload.ext (W.Ext.trans E136 E139)) _ (Npriority.ext (W.Ext.trans E136 E139)) _ (NrunAt.ext (W.Ext.trans E136 E139)) _ (Ndelay.ext (W.Ext.trans E136 E139)) _ (NmaxAttempts.ext (W.Ext.trans E136 E139)) _ (NidempotencyKey.ext (W.Ext.trans E136 E139))) P142 (wd hw (k := 43) rfl) (wd hw (k := 28) rfl) (by decide) (by decide)) (argsL := [(.ref q), (.ref y), (.int (0 : Int32)), .null, dl, (.int (10 : Int32)), .null]) (st0 := [(.ref x135)]) (lenOf pd_Ljava_lang_StringLjava_lang_StringILjava_time_InstantLjava_time_DurationILjava_lang_String_R_V rfl) rfl rfl (Nat.le_of_eq rfl) (by rw [hml]; rfl) (by decide) (by decide) (fun _ _ _ q => ⟨q.2.1.up P142.sz (allS (Or.inr (by rw [g135]; exact P0.sz)) all0), CHr.keep q.2.2.1 (sfS (Safe.exa P142.al (A135.ext (W.Ext.trans E136 E139)) (by decide) (by decide)) sf0) P142.chv⟩) d5_30 rfl ?_
  intro v143 T143 h143 L143 q143 P143
  obtain ⟨rfl, f143, K143, A143, F143queue, F143payload, F143priority, F143runAt, F143delay, F143maxAttempts, F143idempotencyKey⟩ := q143
  show W.Go p.tables e below _ (T143.setTop (mkF m 33 #[.val (.ref q), .val (.ref y)] [(.ref x135)]))
  exact P143.retAW hEL hlk hret rfl rfl rfl d5_33 (by decide) (by decide) ⟨x135, rfl, P143.fr, P143.ext0, A143, F143queue, F143payload, F143priority, F143runAt, F143delay, F143maxAttempts, F143idempotencyKey⟩
set_option maxRecDepth 65536 in
set_option maxHeartbeats 40000000 in
theorem c_queue (l : Launch) (Z : State) (a0 : Array Value) (hw : ∀ d ∈ tables_1, d.before a0 Z = true) (x : Addr) (q : Addr) (h0 : Heap) (F0 : Fld Z h0 x "com/example/tables_as_queues/tablesasqueues/NewJob" "queue" "Ljava/lang/String;" (.ref q)) : W.MetN l Z (⟨"com/example/tables_as_queues/tablesasqueues/NewJob", "queue", "()Ljava/lang/String;"⟩ : MethodName) prog_12_method_8_code 1 ((Option.some (Jvm.ClassFile.FieldType.object "java/lang/String"))) [] ({ frames := 0, cells := 0, slots := 0, locals := 0 } : Room) #[.ref x]  h0 (W.Pure (some (.ref q)) h0) := by
  refine W.MetN.mk (ls0 := #[.val (.ref x)]) [] (plainFor_of_name pn_com_example_tables_as_queues_tablesasqueues_NewJob) (fun m => by first | (simp [entryFrame, mkF, argsToLocals, Value.category]; done) | rfl) ?_
  intro p e s m below meth c s₁ hml hret hnm hlk P0
  show W.Go p.tables e below _ (s₁.setTop (mkF m 0 #[.val (.ref x)] []))
  refine W.g_aloadN (pc1 := 1) P0.q d8_0 rfl rfl rfl ?_
  refine P0.getF (host := "") (pc1 := 4) (Or.inl (wd hw (k := 45) rfl)) Via.refl F0 d8_1 rfl ?_
  intro T144 P144
  exact P144.retAN hlk hret rfl rfl rfl d8_4 (by decide) (by decide) ⟨rfl, rfl, rfl⟩
set_option maxRecDepth 65536 in
set_option maxHeartbeats 40000000 in
theorem c_payload (l : Launch) (Z : State) (a0 : Array Value) (hw : ∀ d ∈ tables_1, d.before a0 Z = true) (x : Addr) (q : Addr) (h0 : Heap) (F0 : Fld Z h0 x "com/example/tables_as_queues/tablesasqueues/NewJob" "payload" "Ljava/lang/String;" (.ref q)) : W.MetN l Z (⟨"com/example/tables_as_queues/tablesasqueues/NewJob", "payload", "()Ljava/lang/String;"⟩ : MethodName) prog_12_method_9_code 1 ((Option.some (Jvm.ClassFile.FieldType.object "java/lang/String"))) [] ({ frames := 0, cells := 0, slots := 0, locals := 0 } : Room) #[.ref x]  h0 (W.Pure (some (.ref q)) h0) := by
  refine W.MetN.mk (ls0 := #[.val (.ref x)]) [] (plainFor_of_name pn_com_example_tables_as_queues_tablesasqueues_NewJob) (fun m => by first | (simp [entryFrame, mkF, argsToLocals, Value.category]; done) | rfl) ?_
  intro p e s m below meth c s₁ hml hret hnm hlk P0
  show W.Go p.tables e below _ (s₁.setTop (mkF m 0 #[.val (.ref x)] []))
  refine W.g_aloadN (pc1 := 1) P0.q d10_0 rfl rfl rfl ?_
  refine P0.getF (host := "") (pc1 := 4) (Or.inl (wd hw (k := 47) rfl)) Via.refl F0 d10_1 rfl ?_
  intro T145 P145
  exact P145.retAN hlk hret rfl rfl rfl d10_4 (by decide) (by decide) ⟨rfl, rfl, rfl⟩
set_option maxRecDepth 65536 in
set_option maxHeartbeats 40000000 in
theorem c_priority (l : Launch) (Z : State) (a0 : Array Value) (hw : ∀ d ∈ tables_1, d.before a0 Z = true) (x : Addr) (q : Int32) (h0 : Heap) (F0 : Fld Z h0 x "com/example/tables_as_queues/tablesasqueues/NewJob" "priority" "I" (.int q)) : W.MetN l Z (⟨"com/example/tables_as_queues/tablesasqueues/NewJob", "priority", "()I"⟩ : MethodName) prog_12_method_10_code 1 ((Option.some Jvm.ClassFile.FieldType.int)) [] ({ frames := 0, cells := 0, slots := 0, locals := 0 } : Room) #[.ref x]  h0 (W.Pure (some (.int q)) h0) := by
  refine W.MetN.mk (ls0 := #[.val (.ref x)]) [] (plainFor_of_name pn_com_example_tables_as_queues_tablesasqueues_NewJob) (fun m => by first | (simp [entryFrame, mkF, argsToLocals, Value.category]; done) | rfl) ?_
  intro p e s m below meth c s₁ hml hret hnm hlk P0
  show W.Go p.tables e below _ (s₁.setTop (mkF m 0 #[.val (.ref x)] []))
  refine W.g_aloadN (pc1 := 1) P0.q d11_0 rfl rfl rfl ?_
  refine P0.getF (host := "") (pc1 := 4) (Or.inl (wd hw (k := 49) rfl)) Via.refl F0 d11_1 rfl ?_
  intro T146 P146
  exact P146.retIN hlk hret d11_4 (by decide) (by decide) ⟨rfl, rfl, rfl⟩
set_option maxRecDepth 65536 in
set_option maxHeartbeats 40000000 in
theorem c_runAt (l : Launch) (Z : State) (a0 : Array Value) (hw : ∀ d ∈ tables_1, d.before a0 Z = true) (x : Addr)  (h0 : Heap) (F0 : Fld Z h0 x "com/example/tables_as_queues/tablesasqueues/NewJob" "runAt" "Ljava/time/Instant;" .null) : W.MetN l Z (⟨"com/example/tables_as_queues/tablesasqueues/NewJob", "runAt", "()Ljava/time/Instant;"⟩ : MethodName) prog_12_method_11_code 1 ((Option.some (Jvm.ClassFile.FieldType.object "java/time/Instant"))) [] ({ frames := 0, cells := 0, slots := 0, locals := 0 } : Room) #[.ref x]  h0 (W.Pure (some .null) h0) := by
  refine W.MetN.mk (ls0 := #[.val (.ref x)]) [] (plainFor_of_name pn_com_example_tables_as_queues_tablesasqueues_NewJob) (fun m => by first | (simp [entryFrame, mkF, argsToLocals, Value.category]; done) | rfl) ?_
  intro p e s m below meth c s₁ hml hret hnm hlk P0
  show W.Go p.tables e below _ (s₁.setTop (mkF m 0 #[.val (.ref x)] []))
  refine W.g_aloadN (pc1 := 1) P0.q d12_0 rfl rfl rfl ?_
  refine P0.getF (host := "") (pc1 := 4) (Or.inl (wd hw (k := 51) rfl)) Via.refl F0 d12_1 rfl ?_
  intro T147 P147
  exact P147.retAN hlk hret rfl rfl rfl d12_4 (by decide) (by decide) ⟨rfl, rfl, rfl⟩
set_option maxRecDepth 65536 in
set_option maxHeartbeats 40000000 in
theorem c_delay (l : Launch) (Z : State) (a0 : Array Value) (hw : ∀ d ∈ tables_1, d.before a0 Z = true) (x : Addr) (dl : Value) (hdl : dl.isRef = true) (h0 : Heap) (F0 : Fld Z h0 x "com/example/tables_as_queues/tablesasqueues/NewJob" "delay" "Ljava/time/Duration;" dl) : W.MetN l Z (⟨"com/example/tables_as_queues/tablesasqueues/NewJob", "delay", "()Ljava/time/Duration;"⟩ : MethodName) prog_12_method_12_code 1 ((Option.some (Jvm.ClassFile.FieldType.object "java/time/Duration"))) [] ({ frames := 0, cells := 0, slots := 0, locals := 0 } : Room) #[.ref x]  h0 (W.Pure (some dl) h0) := by
  refine W.MetN.mk (ls0 := #[.val (.ref x)]) [] (plainFor_of_name pn_com_example_tables_as_queues_tablesasqueues_NewJob) (fun m => by first | (simp [entryFrame, mkF, argsToLocals, Value.category]; done) | rfl) ?_
  intro p e s m below meth c s₁ hml hret hnm hlk P0
  show W.Go p.tables e below _ (s₁.setTop (mkF m 0 #[.val (.ref x)] []))
  refine W.g_aloadN (pc1 := 1) P0.q d13_0 rfl rfl rfl ?_
  refine P0.getF (host := "") (pc1 := 4) (Or.inl (wd hw (k := 53) rfl)) Via.refl F0 d13_1 rfl ?_
  intro T148 P148
  exact P148.retAN hlk hret rfl hdl (own_rf hdl).1 d13_4 (by decide) (by decide) ⟨rfl, rfl, rfl⟩
set_option maxRecDepth 65536 in
set_option maxHeartbeats 40000000 in
theorem c_maxAttempts (l : Launch) (Z : State) (a0 : Array Value) (hw : ∀ d ∈ tables_1, d.before a0 Z = true) (x : Addr) (q : Int32) (h0 : Heap) (F0 : Fld Z h0 x "com/example/tables_as_queues/tablesasqueues/NewJob" "maxAttempts" "I" (.int q)) : W.MetN l Z (⟨"com/example/tables_as_queues/tablesasqueues/NewJob", "maxAttempts", "()I"⟩ : MethodName) prog_12_method_13_code 1 ((Option.some Jvm.ClassFile.FieldType.int)) [] ({ frames := 0, cells := 0, slots := 0, locals := 0 } : Room) #[.ref x]  h0 (W.Pure (some (.int q)) h0) := by
  refine W.MetN.mk (ls0 := #[.val (.ref x)]) [] (plainFor_of_name pn_com_example_tables_as_queues_tablesasqueues_NewJob) (fun m => by first | (simp [entryFrame, mkF, argsToLocals, Value.category]; done) | rfl) ?_
  intro p e s m below meth c s₁ hml hret hnm hlk P0
  show W.Go p.tables e below _ (s₁.setTop (mkF m 0 #[.val (.ref x)] []))
  refine W.g_aloadN (pc1 := 1) P0.q d14_0 rfl rfl rfl ?_
  refine P0.getF (host := "") (pc1 := 4) (Or.inl (wd hw (k := 55) rfl)) Via.refl F0 d14_1 rfl ?_
  intro T149 P149
  exact P149.retIN hlk hret d14_4 (by decide) (by decide) ⟨rfl, rfl, rfl⟩
set_option maxRecDepth 65536 in
set_option maxHeartbeats 40000000 in
theorem c_idempotencyKey (l : Launch) (Z : State) (a0 : Array Value) (hw : ∀ d ∈ tables_1, d.before a0 Z = true) (x : Addr)  (h0 : Heap) (F0 : Fld Z h0 x "com/example/tables_as_queues/tablesasqueues/NewJob" "idempotencyKey" "Ljava/lang/String;" .null) : W.MetN l Z (⟨"com/example/tables_as_queues/tablesasqueues/NewJob", "idempotencyKey", "()Ljava/lang/String;"⟩ : MethodName) prog_12_method_14_code 1 ((Option.some (Jvm.ClassFile.FieldType.object "java/lang/String"))) [] ({ frames := 0, cells := 0, slots := 0, locals := 0 } : Room) #[.ref x]  h0 (W.Pure (some .null) h0) := by
  refine W.MetN.mk (ls0 := #[.val (.ref x)]) [] (plainFor_of_name pn_com_example_tables_as_queues_tablesasqueues_NewJob) (fun m => by first | (simp [entryFrame, mkF, argsToLocals, Value.category]; done) | rfl) ?_
  intro p e s m below meth c s₁ hml hret hnm hlk P0
  show W.Go p.tables e below _ (s₁.setTop (mkF m 0 #[.val (.ref x)] []))
  refine W.g_aloadN (pc1 := 1) P0.q d15_0 rfl rfl rfl ?_
  refine P0.getF (host := "") (pc1 := 4) (Or.inl (wd hw (k := 57) rfl)) Via.refl F0 d15_1 rfl ?_
  intro T150 P150
  exact P150.retAN hlk hret rfl rfl rfl d15_4 (by decide) (by decide) ⟨rfl, rfl, rfl⟩
def Q1 (n : Nat) (v : Option Value) (h : Heap) (L : List Loc) : Prop := v = some (.int 1) ∧ W.Frw [] n L
set_option maxRecDepth 65536 in
set_option maxHeartbeats 40000000 in
theorem rm1 (l : Launch) (Z : State) (a0 : Array Value) (hw : ∀ d ∈ tables_1, d.before a0 Z = true) (wS : ∀ a ∈ Bundle.stringAtoms, a.before a0 Z = true) (hEL : EW Z a0 ownEL) (q p0 : Int32) (h0 : Heap) (EZ : Ext Z.heap h0) (zc : Int32) (hzc : ¬ zc = 0) (C0 : Sta Z Z.heap "java/lang/String" "COMPACT_STRINGS" "Z" (.int zc)) (dl : Value) (hdl : dl.isRef = true) (D0 : Sta Z Z.heap "java/time/Duration" "ZERO" "Ljava/time/Duration;" dl) : W.MetW l Z ownEL x code maxLocals (ret) tables_1 room_1 #[.int q, .int p0] [] h0 (Q1 h0.size) := by
  refine W.MetW.mk (ls0 := #[.val (.int q), .val (.int p0), .unset, .unset, .unset, .unset]) [] (plainFor_of_name pn_com_example_tables_as_queues_tablesasqueues_NewJobOfPinLaw) (fun m => by first | (simp [entryFrame, mkF, argsToLocals, Value.category, maxLocals]; done) | rfl) ?_
  intro p e s m below meth c s₁ hml hret hnm hlk hss P0
  have hml : c.maxLocals = 6 := hml
  show W.Go p.tables e below _ (s₁.setTop (mkF m 0 #[.val (.int q), .val (.int p0), .unset, .unset, .unset, .unset] []))
  refine W.g_iloadN (pc1 := 1) P0.q at_0 rfl rfl ?_
  refine P0.callSW (pc1 := 4) (wd hw (k := 0) rfl) (wd hw (k := 1) rfl) (wd hw (k := 2) rfl) (wd hw (k := 3) rfl) (by decide) (W.MetW.pay (W := 0) (c_drawn l Z a0 hw wS hEL q h0 (P0.extZ EZ all0) zc hzc C0) P0 hEL all0 (wd hw (k := 3) rfl) (wd hw (k := 2) rfl) (by decide) (by decide)) (argsL := [(.int q)]) (st0 := []) (lenOf pd_I_R_Ljava_lang_String rfl) rfl rfl (Nat.le_of_eq rfl) (by rw [hml]; rfl) (by decide) (by decide) (fun _ _ _ q => by obtain ⟨_, _, q2, _⟩ := q; exact q2.up P0.sz all0) at_1 rfl ?_
  intro v151 T151 h151 L151 q151 P151 R151
  obtain ⟨y151, rfl, f151, E151, S151⟩ := q151
  show W.Go p.tables e below _ (T151.setTop (mkF m 4 #[.val (.int q), .val (.int p0), .unset, .unset, .unset, .unset] [(.ref y151)]))
  refine W.g_astoreN (pc1 := 5) (ls2 := #[.val (.int q), .val (.int p0), .val (.ref y151), .unset, .unset, .unset]) P151.q at_4 rfl rfl rfl ?_
  refine W.g_iloadN (pc1 := 6) P151.q at_5 rfl rfl ?_
  refine P151.callSW (pc1 := 9) (wd hw (k := 0) rfl) (wd hw (k := 1) rfl) (wd hw (k := 2) rfl) (wd hw (k := 3) rfl) (by decide) (W.MetW.pay (W := 0) (c_drawn l Z a0 hw wS hEL p0 h151 (P151.extZ EZ all0) zc hzc C0) P151 hEL all0 (wd hw (k := 3) rfl) (wd hw (k := 2) rfl) (by decide) (by decide)) (argsL := [(.int p0)]) (st0 := []) (lenOf pd_I_R_Ljava_lang_String rfl) rfl rfl (Nat.le_of_eq rfl) (by rw [hml]; rfl) (by decide) (by decide) (fun _ _ _ q => by obtain ⟨_, _, q2, _⟩ := q; exact q2.up P151.sz all0) at_6 rfl ?_
  intro v152 T152 h152 L152 q152 P152 R152
  obtain ⟨y152, rfl, f152, E152, S152⟩ := q152
  show W.Go p.tables e below _ (T152.setTop (mkF m 9 #[.val (.int q), .val (.int p0), .val (.ref y151), .unset, .unset, .unset] [(.ref y152)]))
  refine W.g_astoreN (pc1 := 10) (ls2 := #[.val (.int q), .val (.int p0), .val (.ref y151), .val (.ref y152), .unset, .unset]) P152.q at_9 rfl rfl rfl ?_
  refine W.g_aloadN (pc1 := 11) P152.q at_10 rfl rfl rfl ?_
  refine W.g_aloadN (pc1 := 12) P152.q at_11 rfl rfl rfl ?_
  refine P152.callSW (pc1 := 15) (wd hw (k := 26) rfl) (wd hw (k := 27) rfl) (wd hw (k := 28) rfl) (wd hw (k := 29) rfl) (by decide) (W.MetW.pay (W := 0) (c_of l Z a0 hw wS hEL y151 y152 _ _ h152 (P152.extZ EZ all0) dl hdl D0 (S151.ext E152) S152) P152 hEL all0 (wd hw (k := 29) rfl) (wd hw (k := 28) rfl) (by decide) (by decide)) (argsL := [(.ref y151), (.ref y152)]) (st0 := []) (lenOf pd_Ljava_lang_StringLjava_lang_String_R_Lcom_example_tables_as_queues_tablesasqueues_NewJob rfl) rfl rfl (Nat.le_of_eq rfl) (by rw [hml]; rfl) (by decide) (by decide) (fun _ _ _ q => by obtain ⟨_, _, q2, _⟩ := q; exact q2.up P152.sz all0) at_12 rfl ?_
  intro v153 T153 h153 L153 q153 P153 R153
  obtain ⟨x153, rfl, f153, E153, A153, F153queue, F153payload, F153priority, F153runAt, F153delay, F153maxAttempts, F153idempotencyKey⟩ := q153
  show W.Go p.tables e below _ (T153.setTop (mkF m 15 #[.val (.int q), .val (.int p0), .val (.ref y151), .val (.ref y152), .unset, .unset] [(.ref x153)]))
  have S1 := (S151.ext E152).ext E153
  have S2 := S152.ext E153
  refine W.g_astore (pc1 := 17) (ls2 := #[.val (.int q), .val (.int p0), .val (.ref y151), .val (.ref y152), .val (.ref x153), .unset]) P153.q at_15 rfl rfl rfl ?_
  refine W.g_aload (pc1 := 19) P153.q at_17 rfl rfl rfl ?_
  refine W.g_nonY (pc1 := 24) P153.q at_19 (by decide) rfl ?_
  refine W.g_aloadN (pc1 := 25) P153.q at_24 rfl rfl rfl ?_
  refine W.g_aload (pc1 := 27) P153.q at_25 rfl rfl rfl ?_
  refine P153.callV (pc1 := 30) A153 (wd hw (k := 59) rfl) (wd hw (k := 60) rfl) (wd hw (k := 62) rfl) (wd hw (k := 61) rfl) (notFace_of_selects (args := #[]) (mvT P153.hz (wd hw (k := 62) rfl))) (by decide) (W.MetN.pay (W := 1) (c_queue l Z a0 hw x153 y151 h153 F153queue) P153 (wd hw (k := 63) rfl) (wd hw (k := 28) rfl) (by decide) (by decide)) (argsL := []) (st0 := [(.ref y151)]) (lenOf pd__R_Ljava_lang_String rfl) rfl rfl (Nat.le_of_eq rfl) (by rw [hml]; rfl) (by decide) (by decide) (W.Pure.ok P153.chv) at_27 rfl ?_
  intro v154 T154 h154 L154 q154 P154
  obtain ⟨rfl, rfl, rfl⟩ := q154
  show W.Go p.tables e below _ (T154.setTop (mkF m 30 #[.val (.int q), .val (.int p0), .val (.ref y151), .val (.ref y152), .val (.ref x153), .unset] [(.ref y151), (.ref y151)]))
  refine P154.callV (pc1 := 33) S1.exa (wd hw (k := 64) rfl) (wd hw (k := 65) rfl) (wd hw (k := 67) rfl) (wd hw (k := 66) rfl) (notFace_of_selects (args := #[]) (mvT P154.hz (wd hw (k := 67) rfl))) (by decide) (W.MetN.pay (W := 0) (c_eqSelf l Z a0 hw y151 h153) P154 (wd hw (k := 68) rfl) (wd hw (k := 7) rfl) (by decide) (by decide)) (argsL := [(.ref y151)]) (st0 := []) (lenOf pd_Ljava_lang_Object_R_Z rfl) rfl rfl (Nat.le_of_eq rfl) (by rw [hml]; rfl) (by decide) (by decide) (W.Pure.ok P154.chv) at_30 rfl ?_
  intro v155 T155 h155 L155 q155 P155
  obtain ⟨rfl, rfl, rfl⟩ := q155
  show W.Go p.tables e below _ (T155.setTop (mkF m 33 #[.val (.int q), .val (.int p0), .val (.ref y151), .val (.ref y152), .val (.ref x153), .unset] [(.int (1 : Int32))]))
  refine W.g_ifN (pc2 := 36) P155.q at_33 rfl (by decide) ?_
  refine W.g_aloadN (pc1 := 37) P155.q at_36 rfl rfl rfl ?_
  refine W.g_aload (pc1 := 39) P155.q at_37 rfl rfl rfl ?_
  refine P155.callV (pc1 := 42) A153 (wd hw (k := 69) rfl) (wd hw (k := 70) rfl) (wd hw (k := 72) rfl) (wd hw (k := 71) rfl) (notFace_of_selects (args := #[]) (mvT P155.hz (wd hw (k := 72) rfl))) (by decide) (W.MetN.pay (W := 1) (c_payload l Z a0 hw x153 y152 h153 F153payload) P155 (wd hw (k := 73) rfl) (wd hw (k := 28) rfl) (by decide) (by decide)) (argsL := []) (st0 := [(.ref y152)]) (lenOf pd__R_Ljava_lang_String rfl) rfl rfl (Nat.le_of_eq rfl) (by rw [hml]; rfl) (by decide) (by decide) (W.Pure.ok P155.chv) at_39 rfl ?_
  intro v156 T156 h156 L156 q156 P156
  obtain ⟨rfl, rfl, rfl⟩ := q156
  show W.Go p.tables e below _ (T156.setTop (mkF m 42 #[.val (.int q), .val (.int p0), .val (.ref y151), .val (.ref y152), .val (.ref x153), .unset] [(.ref y152), (.ref y152)]))
  refine P156.callV (pc1 := 45) S2.exa (wd hw (k := 64) rfl) (wd hw (k := 65) rfl) (wd hw (k := 67) rfl) (wd hw (k := 66) rfl) (notFace_of_selects (args := #[]) (mvT P156.hz (wd hw (k := 67) rfl))) (by decide) (W.MetN.pay (W := 0) (c_eqSelf l Z a0 hw y152 h153) P156 (wd hw (k := 68) rfl) (wd hw (k := 7) rfl) (by decide) (by decide)) (argsL := [(.ref y152)]) (st0 := []) (lenOf pd_Ljava_lang_Object_R_Z rfl) rfl rfl (Nat.le_of_eq rfl) (by rw [hml]; rfl) (by decide) (by decide) (W.Pure.ok P156.chv) at_42 rfl ?_
  intro v157 T157 h157 L157 q157 P157
  obtain ⟨rfl, rfl, rfl⟩ := q157
  show W.Go p.tables e below _ (T157.setTop (mkF m 45 #[.val (.int q), .val (.int p0), .val (.ref y151), .val (.ref y152), .val (.ref x153), .unset] [(.int (1 : Int32))]))
  refine W.g_ifN (pc2 := 48) P157.q at_45 rfl (by decide) ?_
  refine W.g_iconst (pc1 := 49) (v := (1 : Int32)) P157.q at_48 (by decide) rfl ?_
  refine W.g_goto (pc1 := 53) P157.q at_49 (by decide) rfl ?_
  refine W.g_istore (pc1 := 55) (ls2 := #[.val (.int q), .val (.int p0), .val (.ref y151), .val (.ref y152), .val (.ref x153), .val (.int (1 : Int32))]) P157.q at_53 rfl rfl ?_
  refine W.g_iload (pc1 := 57) P157.q at_55 rfl rfl ?_
  refine W.g_ifN (pc2 := 60) P157.q at_57 rfl (by decide) ?_
  refine W.g_aload (pc1 := 62) P157.q at_60 rfl rfl rfl ?_
  refine P157.callV (pc1 := 65) A153 (wd hw (k := 74) rfl) (wd hw (k := 75) rfl) (wd hw (k := 77) rfl) (wd hw (k := 76) rfl) (notFace_of_selects (args := #[]) (mvT P157.hz (wd hw (k := 77) rfl))) (by decide) (W.MetN.pay (W := 0) (c_priority l Z a0 hw x153 0 h153 F153priority) P157 (wd hw (k := 78) rfl) (wd hw (k := 28) rfl) (by decide) (by decide)) (argsL := []) (st0 := []) (lenOf pd__R_I rfl) rfl rfl (Nat.le_of_eq rfl) (by rw [hml]; rfl) (by decide) (by decide) (W.Pure.ok P157.chv) at_62 rfl ?_
  intro v158 T158 h158 L158 q158 P158
  obtain ⟨rfl, rfl, rfl⟩ := q158
  show W.Go p.tables e below _ (T158.setTop (mkF m 65 #[.val (.int q), .val (.int p0), .val (.ref y151), .val (.ref y152), .val (.ref x153), .val (.int (1 : Int32))] [(.int (0 : Int32))]))
  refine W.g_ifN (pc2 := 68) P158.q at_65 rfl (by decide) ?_
  refine W.g_iconst (pc1 := 69) (v := (1 : Int32)) P158.q at_68 (by decide) rfl ?_
  refine W.g_goto (pc1 := 73) P158.q at_69 (by decide) rfl ?_
  refine W.g_istore (pc1 := 75) (ls2 := #[.val (.int q), .val (.int p0), .val (.ref y151), .val (.ref y152), .val (.ref x153), .val (.int (1 : Int32))]) P158.q at_73 rfl rfl ?_
  refine W.g_iload (pc1 := 77) P158.q at_75 rfl rfl ?_
  refine W.g_ifN (pc2 := 80) P158.q at_77 rfl (by decide) ?_
  refine W.g_aload (pc1 := 82) P158.q at_80 rfl rfl rfl ?_
  refine P158.callV (pc1 := 85) A153 (wd hw (k := 79) rfl) (wd hw (k := 80) rfl) (wd hw (k := 82) rfl) (wd hw (k := 81) rfl) (notFace_of_selects (args := #[]) (mvT P158.hz (wd hw (k := 82) rfl))) (by decide) (W.MetN.pay (W := 0) (c_runAt l Z a0 hw x153  h153 F153runAt) P158 (wd hw (k := 83) rfl) (wd hw (k := 28) rfl) (by decide) (by decide)) (argsL := []) (st0 := []) (lenOf pd__R_Ljava_time_Instant rfl) rfl rfl (Nat.le_of_eq rfl) (by rw [hml]; rfl) (by decide) (by decide) (W.Pure.ok P158.chv) at_82 rfl ?_
  intro v159 T159 h159 L159 q159 P159
  obtain ⟨rfl, rfl, rfl⟩ := q159
  show W.Go p.tables e below _ (T159.setTop (mkF m 85 #[.val (.int q), .val (.int p0), .val (.ref y151), .val (.ref y152), .val (.ref x153), .val (.int (1 : Int32))] [.null]))
  refine W.g_nonN (pc2 := 88) P159.q at_85 rfl ?_
  refine W.g_iconst (pc1 := 89) (v := (1 : Int32)) P159.q at_88 (by decide) rfl ?_
  refine W.g_goto (pc1 := 93) P159.q at_89 (by decide) rfl ?_
  refine W.g_istore (pc1 := 95) (ls2 := #[.val (.int q), .val (.int p0), .val (.ref y151), .val (.ref y152), .val (.ref x153), .val (.int (1 : Int32))]) P159.q at_93 rfl rfl ?_
  refine W.g_iload (pc1 := 97) P159.q at_95 rfl rfl ?_
  refine W.g_ifN (pc2 := 100) P159.q at_97 rfl (by decide) ?_
  refine W.g_aload (pc1 := 102) P159.q at_100 rfl rfl rfl ?_
  refine P159.callV (pc1 := 105) A153 (wd hw (k := 84) rfl) (wd hw (k := 85) rfl) (wd hw (k := 87) rfl) (wd hw (k := 86) rfl) (notFace_of_selects (args := #[]) (mvT P159.hz (wd hw (k := 87) rfl))) (by decide) (W.MetN.pay (W := 0) (c_delay l Z a0 hw x153 dl hdl h153 F153delay) P159 (wd hw (k := 88) rfl) (wd hw (k := 28) rfl) (by decide) (by decide)) (argsL := []) (st0 := []) (lenOf pd__R_Ljava_time_Duration rfl) rfl rfl (Nat.le_of_eq rfl) (by rw [hml]; rfl) (by decide) (by decide) (W.Pure.ok P159.chv) at_102 rfl ?_
  intro v160 T160 h160 L160 q160 P160
  obtain ⟨rfl, rfl, rfl⟩ := q160
  show W.Go p.tables e below _ (T160.setTop (mkF m 105 #[.val (.int q), .val (.int p0), .val (.ref y151), .val (.ref y152), .val (.ref x153), .val (.int (1 : Int32))] [dl]))
  refine P160.getS (pc1 := 108) (wd hw (k := 89) rfl) Via.refl (D0.ext (P160.extZ EZ all0)) at_105 rfl ?_
  intro T161 P161
  refine W.g_acmpN (pc2 := 111) P161.q at_108 rfl hdl hdl (by simp [Jvm.Free.XT.acmp]) ?_
  refine W.g_iconst (pc1 := 112) (v := (1 : Int32)) P161.q at_111 (by decide) rfl ?_
  refine W.g_goto (pc1 := 116) P161.q at_112 (by decide) rfl ?_
  refine W.g_istore (pc1 := 118) (ls2 := #[.val (.int q), .val (.int p0), .val (.ref y151), .val (.ref y152), .val (.ref x153), .val (.int (1 : Int32))]) P161.q at_116 rfl rfl ?_
  refine W.g_iload (pc1 := 120) P161.q at_118 rfl rfl ?_
  refine W.g_ifN (pc2 := 123) P161.q at_120 rfl (by decide) ?_
  refine W.g_aload (pc1 := 125) P161.q at_123 rfl rfl rfl ?_
  refine P161.callV (pc1 := 128) A153 (wd hw (k := 90) rfl) (wd hw (k := 91) rfl) (wd hw (k := 93) rfl) (wd hw (k := 92) rfl) (notFace_of_selects (args := #[]) (mvT P161.hz (wd hw (k := 93) rfl))) (by decide) (W.MetN.pay (W := 0) (c_maxAttempts l Z a0 hw x153 10 h153 F153maxAttempts) P161 (wd hw (k := 94) rfl) (wd hw (k := 28) rfl) (by decide) (by decide)) (argsL := []) (st0 := []) (lenOf pd__R_I rfl) rfl rfl (Nat.le_of_eq rfl) (by rw [hml]; rfl) (by decide) (by decide) (W.Pure.ok P161.chv) at_125 rfl ?_
  intro v162 T162 h162 L162 q162 P162
  obtain ⟨rfl, rfl, rfl⟩ := q162
  show W.Go p.tables e below _ (T162.setTop (mkF m 128 #[.val (.int q), .val (.int p0), .val (.ref y151), .val (.ref y152), .val (.ref x153), .val (.int (1 : Int32))] [(.int (10 : Int32))]))
  refine W.g_bipush (pc1 := 130) (v := (10 : Int32)) P162.q at_128 (by decide) rfl ?_
  refine W.g_cmpN (pc2 := 133) P162.q at_130 rfl (by decide) ?_
  refine W.g_iconst (pc1 := 134) (v := (1 : Int32)) P162.q at_133 (by decide) rfl ?_
  refine W.g_goto (pc1 := 138) P162.q at_134 (by decide) rfl ?_
  refine W.g_istore (pc1 := 140) (ls2 := #[.val (.int q), .val (.int p0), .val (.ref y151), .val (.ref y152), .val (.ref x153), .val (.int (1 : Int32))]) P162.q at_138 rfl rfl ?_
  refine W.g_iload (pc1 := 142) P162.q at_140 rfl rfl ?_
  refine W.g_ifN (pc2 := 145) P162.q at_142 rfl (by decide) ?_
  refine W.g_aload (pc1 := 147) P162.q at_145 rfl rfl rfl ?_
  refine P162.callV (pc1 := 150) A153 (wd hw (k := 95) rfl) (wd hw (k := 96) rfl) (wd hw (k := 98) rfl) (wd hw (k := 97) rfl) (notFace_of_selects (args := #[]) (mvT P162.hz (wd hw (k := 98) rfl))) (by decide) (W.MetN.pay (W := 0) (c_idempotencyKey l Z a0 hw x153  h153 F153idempotencyKey) P162 (wd hw (k := 99) rfl) (wd hw (k := 28) rfl) (by decide) (by decide)) (argsL := []) (st0 := []) (lenOf pd__R_Ljava_lang_String rfl) rfl rfl (Nat.le_of_eq rfl) (by rw [hml]; rfl) (by decide) (by decide) (W.Pure.ok P162.chv) at_147 rfl ?_
  intro v163 T163 h163 L163 q163 P163
  obtain ⟨rfl, rfl, rfl⟩ := q163
  show W.Go p.tables e below _ (T163.setTop (mkF m 150 #[.val (.int q), .val (.int p0), .val (.ref y151), .val (.ref y152), .val (.ref x153), .val (.int (1 : Int32))] [.null]))
  refine W.g_nonN (pc2 := 153) P163.q at_150 rfl ?_
  refine W.g_iconst (pc1 := 154) (v := (1 : Int32)) P163.q at_153 (by decide) rfl ?_
  refine W.g_goto (pc1 := 158) P163.q at_154 (by decide) rfl ?_
  refine W.g_istore (pc1 := 160) (ls2 := #[.val (.int q), .val (.int p0), .val (.ref y151), .val (.ref y152), .val (.ref x153), .val (.int (1 : Int32))]) P163.q at_158 rfl rfl ?_
  refine W.g_iload (pc1 := 162) P163.q at_160 rfl rfl ?_
  exact P163.retVW hEL hlk hret (Or.inl rfl) at_162 (by decide) (by decide) ⟨rfl, P163.fr⟩
set_option maxRecDepth 65536 in
set_option maxHeartbeats 40000000 in
theorem comes_1 {Post : Tables → Env → Array Value → State → Outcome → State → Prop} (hpost : ∀ tb e args s v u, (limb_1_1.after args s (.returned v) u = true ∧ limb_1_2.after args s (.returned v) u = true ∧ True) → ReturnedEndW s (.returned v) u (Jvm.fieldLocs frame_1_writes args s ++ Jvm.arrayLocs frame_1_arrays args s ++ Jvm.staticLocs frame_1_statics s) 32 3264 → Post tb e args s (.returned v) u) :
    ArmFor flags0 classFile x code maxLocals ret World_1 tables_1 room_1 Calls_1 rest_1 Pre_1 Post := by
  intro l hfl _ _ p e ha hc hk s m args below hf hA hF happ hP
  obtain ⟨hcalls, hrest, hpre⟩ := hP
  obtain ⟨-, -, -, hnamed, -, -, -, hat⟩ := (Spec.applies_iff hf).mp happ
  obtain ⟨hg, hn⟩ := and_e (Cond.before_iff.mp (show (Jvm.Cond.and given_1 narrow_1).before args s = true from hpre))
  obtain ⟨hcnt, hg0⟩ := and_e hg
  obtain ⟨ga0, hg1⟩ := and_e hg0
  have ga1 := hg1
  obtain ⟨w0, w1, rfl⟩ : ∃ w0 w1 : Value, args = #[w0, w1] := by
    have hs : args.size = 2 := by simpa [Cond.value, given_1] using hcnt
    obtain ⟨L⟩ := args
    match L, hs with
    | [w0, w1], _ => exact ⟨w0, w1, rfl⟩
  have hw := fun d (hd : d ∈ tables_1) => atoms_spec (ws := Jvm.Cond.code x code maxLocals ret :: tables_1) hat d (List.mem_cons_of_mem _ hd)
  obtain ⟨hsets, hown0⟩ := atoms_of _ (rest_1_c_eq ▸ (show rest_1_c.before _ s = true from hrest))
  obtain ⟨i0, ei0⟩ := is_v ga0
  obtain rfl : w0 = (.int i0) := Option.some.inj ei0
  obtain ⟨i1, ei1⟩ := is_v ga1
  obtain rfl : w1 = (.int i1) := Option.some.inj ei1
  have n5 := not_v (Cond.before_iff.mp (hsets _ (List.mem_of_getElem? (i := 7) rfl)))
  obtain ⟨zc, ezc⟩ := is_v (Cond.before_iff.mp (hsets _ (List.mem_of_getElem? (i := 6) rfl)))
  have C0 : Sta s s.heap "java/lang/String" "COMPACT_STRINGS" "Z" (.int zc) := Sta.start ezc (Or.inl (hsets _ (List.mem_of_getElem? (i := 5) rfl)))
  have hzc : ¬ (zc = (0 : Int32)) := gotF (Cond.eq_ints ezc (Term.int_eval (0))) n5
  obtain ⟨da, eda⟩ := exa_v (Cond.before_iff.mp (hsets _ (List.mem_of_getElem? (i := 2) rfl)))
  have D0 : Sta s s.heap "java/time/Duration" "ZERO" "Ljava/time/Duration;" (.ref da) := Sta.start eda (Or.inl (hsets _ (List.mem_of_getElem? (i := 1) rfl)))
  have wS : ∀ a ∈ Bundle.stringAtoms, a.before _ s = true := fun d hd => hw d (own_atoms d hd)
  have hEL : EW s _ ownEL := (EW.cons (own := "java/lang/String") (index := 7) (text := "") (wd hw (k := 18) rfl) (by decide) EW.nil)
  have hCH : CHv s ownEL s.vm s.heap := CHv.start hEL (fun p hp => hcalls.1 p (own_consts p hp)) (hsets _ (List.mem_of_getElem? (i := 7) rfl)) (wd hw (k := 19) rfl) (wd hw (k := 6) rfl)
  obtain ⟨n, o, h1, h2, h3, _, L, rfl, ⟨rfl, N⟩, -, hq⟩ := rm1 l s _ hw wS hEL i0 i1 s.heap (W.Ext.refl _) zc hzc C0 (.ref da) rfl D0 p e ha hc hk s m _ below hf ((Spec.applies_iff_loose hf).mp happ).1 ⟨rfl, State.Warmed39.refl s, rfl, hCH, all0⟩ trivial
  refine ⟨n, _, h1, h2, h3, hpost _ _ _ _ _ _ ⟨Cond.after_iff.mpr rfl, Cond.after_iff.mpr (eq_i res_at (Term.int_eval (1)) rfl), trivial⟩ ⟨hq.1, hq.2.1, hq.2.2.1, (hq.2.2.2.sift fun y hy => Or.inr ((N y hy).elim (fun q => nomatch q) id)).mono (by decide) (by decide)⟩⟩
theorem main_1_1 : Claimed_1_1 := comes_1 fun _ _ _ _ _ _ h hF => ⟨h.1, hF⟩
theorem main_1_2 : Claimed_1_2 := comes_1 fun _ _ _ _ _ _ h hF => ⟨h.2.1, hF⟩
end Jvm.Pilot.@@N@@
namespace Jvm.Pilot.@@N@@
open Jvm Jvm.ClassFile Sem Op Lib Jvm.Free Jvm.Stand Jvm.Pilot.@@N@@.Jvm.D
/-! MADE BY PROGRAM (witnessworld.py) out of the Statement's table words and the real class files: 23 classes; the members and pool entries that the words name. The judged class is class 1, her method 2. -/
namespace start1
open Jvm.ClassFile
def u (s : String) : CpInfo := .utf8 (stringToUtf16 s)
/-- a pool by its gaps: so many unusable entries, then the entry; so many at the end -/
def gap : Nat → List CpInfo → List CpInfo
  | 0, r => r
  | n + 1, r => .unusable :: gap n r
def poolList (es : List (Nat × CpInfo)) (last : Nat) : List CpInfo := es.foldr (fun e r => gap e.1 (e.2 :: r)) (gap last [])
def pool (es : List (Nat × CpInfo)) (last : Nat) : Array CpInfo := ⟨poolList es last⟩
def fileOf (pool : Array CpInfo) (this : Nat) (attrs : Array Attribute := #[]) (ms : Array MethodInfo := #[]) (fl : Nat := 33) (sup : Nat := 0) (ifs : Array Nat := #[]) (fds : Array FieldInfo := #[]) : ClassFile where
  minorVersion := 0
  majorVersion := 65
  constantPool := pool
  accessFlags := fl
  thisClass := this
  superClass := sup
  interfaces := ifs
  fields := fds
  methods := ms
  attributes := attrs
def plain (name : String) (sup : Option ClassId) : Class where
  name := name
  kind := .ordinary
  loader := none
  accessFlags := 33
  super := sup
  interfaces := #[]
  cf := none
  fields := #[]
  methods := #[]
  instanceTypes := #[]
  staticTypes := #[]
  resolved := #[]
  callSites := []
  init := .initialized
  statics := none
  mirror := none

def pool0 : Array CpInfo := pool [(5, u "<init>"), (0, u "()V"), (1, .class_ 10), (1, u "java/lang/Object")] 113

def k0c0 : Code := { maxStack := 0, maxLocals := 1, code := object_method_1_code, exceptionTable := #[], attributes := #[] }
def k0m0 : Method := { name := "<init>", desc := "()V", sig := { parameters := [], returnType := none }, accessFlags := 1, code := some k0c0 }
/-- java/lang/Object -/
def k0 : Class := { plain "java/lang/Object" none with
  accessFlags := 33
  interfaces := #[]
  cf := some (fileOf pool0 8 #[] #[{ accessFlags := 1, nameIndex := 5, descriptorIndex := 6, attributes := #[] }] 33 0 #[] #[])
  fields := #[]
  methods := #[k0m0]
  instanceTypes := #[]
  staticTypes := #[]
  resolved := Array.replicate 124 none
  statics := none }

def pool1 : Array CpInfo := pool [(2, .class_ 4), (1, u "java/lang/Object"), (0, u "<init>"), (0, u "()V"), (0, .class_ 8), (0, u "java/lang/String"), (0, .methodref 7 10), (0, .nameAndType 5 11), (0, u "([C)V"), (0, .methodref 13 14), (0, .class_ 15), (0, .nameAndType 16 17), (0, u "com/example/tables_as_queues/tablesasqueues/NewJobOfPinLaw"), (0, u "drawn"), (0, u "(I)Ljava/lang/String;"), (0, .methodref 19 20), (0, .class_ 21), (0, .nameAndType 22 23), (0, u "com/example/tables_as_queues/tablesasqueues/NewJob"), (0, u "of"), (0, u "(Ljava/lang/String;Ljava/lang/String;)Lcom/example/tables_as_queues/tablesasqueues/NewJob;"), (0, .methodref 19 25), (0, .nameAndType 26 27), (0, u "queue"), (0, u "()Ljava/lang/String;"), (0, .methodref 7 29), (0, .nameAndType 30 31), (0, u "equals"), (0, u "(Ljava/lang/Object;)Z"), (0, .methodref 19 33), (0, .nameAndType 34 27), (0, u "payload"), (0, .methodref 19 36), (0, .nameAndType 37 38), (0, u "priority"), (0, u "()I"), (0, .methodref 19 40), (0, .nameAndType 41 42), (0, u "runAt"), (0, u "()Ljava/time/Instant;"), (0, .methodref 19 44), (0, .nameAndType 45 46), (0, u "delay"), (0, u "()Ljava/time/Duration;"), (0, .fieldref 48 49), (0, .class_ 50), (0, .nameAndType 51 52), (0, u "java/time/Duration"), (0, u "ZERO"), (0, u "Ljava/time/Duration;"), (0, .methodref 19 54), (0, .nameAndType 55 38), (0, u "maxAttempts"), (0, .methodref 19 57), (0, .nameAndType 58 27), (0, u "idempotencyKey"), (5, u "law"), (0, u "(II)Z")] 2

def k1m0 : Method := { name := "<init>", desc := "()V", sig := { parameters := [], returnType := none }, accessFlags := 2, code := none }
def k1c1 : Code := { maxStack := 4, maxLocals := 6, code := method_2_code, exceptionTable := #[], attributes := #[] }
def k1m1 : Method := { name := "drawn", desc := "(I)Ljava/lang/String;", sig := { parameters := [.int], returnType := some (.object "java/lang/String") }, accessFlags := 10, code := some k1c1 }
def k1c2 : Code := { maxStack := 2, maxLocals := 6, code := code, exceptionTable := #[], attributes := #[] }
def k1m2 : Method := { name := "law", desc := "(II)Z", sig := { parameters := [.int, .int], returnType := some .boolean }, accessFlags := 9, code := some k1c2 }
/-- com/example/tables_as_queues/tablesasqueues/NewJobOfPinLaw -/
def k1 : Class := { plain "com/example/tables_as_queues/tablesasqueues/NewJobOfPinLaw" (some 0) with
  accessFlags := 49
  interfaces := #[]
  cf := some (fileOf pool1 13 #[] #[{ accessFlags := 2, nameIndex := 5, descriptorIndex := 6, attributes := #[] }, { accessFlags := 10, nameIndex := 16, descriptorIndex := 17, attributes := #[] }, { accessFlags := 9, nameIndex := 64, descriptorIndex := 65, attributes := #[] }] 49 2 #[] #[])
  fields := #[]
  methods := #[k1m0, k1m1, k1m2]
  instanceTypes := #[]
  staticTypes := #[]
  resolved := Array.replicate 68 none
  statics := none }

def pool2 : Array CpInfo := pool [(1, .class_ 2), (0, u "java/io/Serializable"), (0, .class_ 4), (0, u "java/lang/Object")] 2

/-- java/io/Serializable -/
def k2 : Class := { plain "java/io/Serializable" (some 0) with
  accessFlags := 1537
  interfaces := #[]
  cf := some (fileOf pool2 1 #[] #[] 1537 3 #[] #[])
  fields := #[]
  methods := #[]
  instanceTypes := #[]
  staticTypes := #[]
  resolved := Array.replicate 7 none
  statics := none }

def pool3 : Array CpInfo := pool [(1, .class_ 2), (0, u "java/lang/Comparable"), (0, .class_ 4), (0, u "java/lang/Object")] 7

/-- java/lang/Comparable -/
def k3 : Class := { plain "java/lang/Comparable" (some 0) with
  accessFlags := 1537
  interfaces := #[]
  cf := some (fileOf pool3 1 #[] #[] 1537 3 #[] #[])
  fields := #[]
  methods := #[]
  instanceTypes := #[]
  staticTypes := #[]
  resolved := Array.replicate 12 none
  statics := none }

def pool4 : Array CpInfo := pool [(2, .class_ 4), (1, u "java/lang/CharSequence"), (42, .class_ 48), (0, u "java/lang/CharSequence$1CodePointIterator"), (10, .class_ 60), (0, u "java/lang/CharSequence$1CharIterator"), (5, .class_ 67), (0, u "java/lang/Object")] 63

/-- java/lang/CharSequence -/
def k4 : Class := { plain "java/lang/CharSequence" (some 0) with
  accessFlags := 1537
  interfaces := #[]
  cf := some (fileOf pool4 2 #[.nestMembers #[47, 59]] #[] 1537 66 #[] #[])
  fields := #[]
  methods := #[]
  instanceTypes := #[]
  staticTypes := #[]
  resolved := Array.replicate 131 none
  statics := none }

def pool5 : Array CpInfo := pool [(1, .class_ 2), (0, u "java/lang/constant/Constable"), (0, .class_ 4), (0, u "java/lang/Object")] 6

/-- java/lang/constant/Constable -/
def k5 : Class := { plain "java/lang/constant/Constable" (some 0) with
  accessFlags := 1537
  interfaces := #[]
  cf := some (fileOf pool5 1 #[] #[] 1537 3 #[] #[])
  fields := #[]
  methods := #[]
  instanceTypes := #[]
  staticTypes := #[]
  resolved := Array.replicate 11 none
  statics := none }

def pool6 : Array CpInfo := pool [(1, .class_ 2), (0, u "java/lang/constant/ConstantDesc"), (0, .class_ 4), (0, u "java/lang/Object")] 32

/-- java/lang/constant/ConstantDesc -/
def k6 : Class := { plain "java/lang/constant/ConstantDesc" (some 0) with
  accessFlags := 1537
  interfaces := #[]
  cf := some (fileOf pool6 1 #[] #[] 1537 3 #[] #[])
  fields := #[]
  methods := #[]
  instanceTypes := #[]
  staticTypes := #[]
  resolved := Array.replicate 37 none
  statics := none }

def pool7 : Array CpInfo := pool [(1, .methodref 2 3), (0, .class_ 4), (0, .nameAndType 5 6), (0, u "java/lang/Object"), (0, u "<init>"), (0, u "()V"), (0, .string 8), (0, u ""), (0, .fieldref 10 11), (0, .class_ 12), (0, .nameAndType 13 14), (0, u "java/lang/String"), (0, u "value"), (0, u "[B"), (0, .fieldref 10 16), (0, .nameAndType 17 18), (0, u "coder"), (0, u "B"), (2, u "hash"), (0, u "I"), (2, u "hashIsZero"), (0, u "Z"), (0, .methodref 10 28), (0, .nameAndType 5 29), (0, u "([CIILjava/lang/Void;)V"), (8, .fieldref 10 39), (0, .nameAndType 40 26), (0, u "COMPACT_STRINGS"), (1, .class_ 44), (1, u "java/lang/StringUTF16"), (0, u "compress"), (1, .methodref 42 48), (0, .nameAndType 49 50), (0, u "coderFromArrayLen"), (0, u "([BI)B"), (126, .methodref 42 178), (0, .nameAndType 45 179), (0, u "([CII)[B"), (363, u "equals"), (29, u "(Ljava/lang/Object;)Z"), (1, .class_ 576), (0, u "java/lang/CharSequence"), (22, u "CASE_INSENSITIVE_ORDER"), (0, u "Ljava/util/Comparator;"), (409, u "([C)V"), (90, u "serialPersistentFields"), (0, u "[Ljava/io/ObjectStreamField;"), (0, .class_ 1104), (0, u "java/lang/String$CaseInsensitiveComparator"), (1, .class_ 1107), (0, u "java/io/Serializable"), (0, .class_ 1109), (0, u "java/lang/Comparable"), (0, .class_ 1111), (0, u "java/lang/constant/Constable"), (0, .class_ 1113), (0, u "java/lang/constant/ConstantDesc"), (2, u "serialVersionUID"), (0, u "J"), (3, u "REPL"), (0, u "C"), (2, u "LATIN1"), (1, u "UTF16")] 323

def k7m0 : Method := { name := "<init>", desc := "()V", sig := { parameters := [], returnType := none }, accessFlags := 1, code := none }
def k7c1 : Code := { maxStack := 5, maxLocals := 2, code := jdk_42_method_3_code, exceptionTable := #[], attributes := #[] }
def k7m1 : Method := { name := "<init>", desc := "([C)V", sig := { parameters := [(.array .char)], returnType := none }, accessFlags := 1, code := some k7c1 }
def k7c2 : Code := { maxStack := 2, maxLocals := 3, code := jdk_42_method_66_code, exceptionTable := #[], attributes := #[] }
def k7m2 : Method := { name := "equals", desc := "(Ljava/lang/Object;)Z", sig := { parameters := [(.object "java/lang/Object")], returnType := some .boolean }, accessFlags := 1, code := some k7c2 }
def k7c3 : Code := { maxStack := 4, maxLocals := 6, code := jdk_42_method_149_code, exceptionTable := #[], attributes := #[] }
def k7m3 : Method := { name := "<init>", desc := "([CIILjava/lang/Void;)V", sig := { parameters := [(.array .char), .int, .int, (.object "java/lang/Void")], returnType := none }, accessFlags := 2, code := some k7c3 }
/-- java/lang/String -/
def k7 : Class := { plain "java/lang/String" (some 0) with
  accessFlags := 49
  interfaces := #[2, 3, 4, 5, 6]
  cf := some (fileOf pool7 10 #[.nestMembers #[1103]] #[{ accessFlags := 1, nameIndex := 5, descriptorIndex := 6, attributes := #[] }, { accessFlags := 1, nameIndex := 5, descriptorIndex := 1010, attributes := #[] }, { accessFlags := 1, nameIndex := 543, descriptorIndex := 573, attributes := #[] }, { accessFlags := 2, nameIndex := 5, descriptorIndex := 29, attributes := #[] }] 49 2 #[1106, 1108, 575, 1110, 1112] #[{ accessFlags := 18, nameIndex := 13, descriptorIndex := 14, attributes := #[] }, { accessFlags := 18, nameIndex := 17, descriptorIndex := 18, attributes := #[] }, { accessFlags := 2, nameIndex := 21, descriptorIndex := 22, attributes := #[] }, { accessFlags := 2, nameIndex := 25, descriptorIndex := 26, attributes := #[] }, { accessFlags := 26, nameIndex := 1116, descriptorIndex := 1117, attributes := #[] }, { accessFlags := 24, nameIndex := 40, descriptorIndex := 26, attributes := #[] }, { accessFlags := 26, nameIndex := 1101, descriptorIndex := 1102, attributes := #[] }, { accessFlags := 26, nameIndex := 1121, descriptorIndex := 1122, attributes := #[] }, { accessFlags := 25, nameIndex := 599, descriptorIndex := 600, attributes := #[] }, { accessFlags := 24, nameIndex := 1125, descriptorIndex := 18, attributes := #[] }, { accessFlags := 24, nameIndex := 1127, descriptorIndex := 18, attributes := #[] }])
  fields := #[{ name := "value", type := (.array .byte), accessFlags := 18, slot := 0, constantValue := 0 }, { name := "coder", type := .byte, accessFlags := 18, slot := 1, constantValue := 0 }, { name := "hash", type := .int, accessFlags := 2, slot := 2, constantValue := 0 }, { name := "hashIsZero", type := .boolean, accessFlags := 2, slot := 3, constantValue := 0 }, { name := "serialVersionUID", type := .long, accessFlags := 26, slot := 0, constantValue := 0 }, { name := "COMPACT_STRINGS", type := .boolean, accessFlags := 24, slot := 1, constantValue := 0 }, { name := "serialPersistentFields", type := (.array (.object "java/io/ObjectStreamField")), accessFlags := 26, slot := 2, constantValue := 0 }, { name := "REPL", type := .char, accessFlags := 26, slot := 3, constantValue := 0 }, { name := "CASE_INSENSITIVE_ORDER", type := (.object "java/util/Comparator"), accessFlags := 25, slot := 4, constantValue := 0 }, { name := "LATIN1", type := .byte, accessFlags := 24, slot := 5, constantValue := 0 }, { name := "UTF16", type := .byte, accessFlags := 24, slot := 6, constantValue := 0 }]
  methods := #[k7m0, k7m1, k7m2, k7m3]
  instanceTypes := #[(.array .byte), .byte, .int, .boolean]
  staticTypes := #[.long, .boolean, (.array (.object "java/io/ObjectStreamField")), .char, (.object "java/util/Comparator"), .byte, .byte]
  resolved := Array.replicate 1451 none
  statics := some 0 }

def pool8 : Array CpInfo := pool [(1, .methodref 2 3), (0, .class_ 4), (0, .nameAndType 5 6), (0, u "java/lang/Object"), (0, u "<init>"), (0, u "()V"), (0, .fieldref 8 9), (0, .class_ 10), (0, .nameAndType 11 12), (0, u "com/example/tables_as_queues/tablesasqueues/NewJob"), (0, u "queue"), (0, u "Ljava/lang/String;"), (0, .fieldref 8 14), (0, .nameAndType 15 12), (0, u "payload"), (0, .fieldref 8 17), (0, .nameAndType 18 19), (0, u "priority"), (0, u "I"), (0, .fieldref 8 21), (0, .nameAndType 22 23), (0, u "runAt"), (0, u "Ljava/time/Instant;"), (0, .fieldref 8 25), (0, .nameAndType 26 27), (0, u "delay"), (0, u "Ljava/time/Duration;"), (0, .fieldref 8 29), (0, .nameAndType 30 19), (0, u "maxAttempts"), (0, .fieldref 8 32), (0, .nameAndType 33 12), (0, u "idempotencyKey"), (0, .string 11), (0, .methodref 36 37), (0, .class_ 38), (0, .nameAndType 39 40), (0, u "java/util/Objects"), (0, u "requireNonNull"), (0, u "(Ljava/lang/Object;Ljava/lang/String;)Ljava/lang/Object;"), (0, .class_ 42), (0, u "java/lang/String"), (0, .string 15), (0, .fieldref 45 46), (0, .class_ 47), (0, .nameAndType 48 27), (0, u "java/time/Duration"), (0, u "ZERO"), (2, .methodref 8 52), (0, .nameAndType 5 53), (0, u "(Ljava/lang/String;Ljava/lang/String;ILjava/time/Instant;Ljava/time/Duration;ILjava/lang/String;)V"), (28, u "of"), (0, u "(Ljava/lang/String;Ljava/lang/String;)Lcom/example/tables_as_queues/tablesasqueues/NewJob;"), (10, u "()Ljava/lang/String;"), (0, u "()I"), (0, u "()Ljava/time/Instant;"), (0, u "()Ljava/time/Duration;")] 19

def k8c0 : Code := { maxStack := 2, maxLocals := 8, code := prog_12_method_1_code, exceptionTable := #[], attributes := #[] }
def k8m0 : Method := { name := "<init>", desc := "(Ljava/lang/String;Ljava/lang/String;ILjava/time/Instant;Ljava/time/Duration;ILjava/lang/String;)V", sig := { parameters := [(.object "java/lang/String"), (.object "java/lang/String"), .int, (.object "java/time/Instant"), (.object "java/time/Duration"), .int, (.object "java/lang/String")], returnType := none }, accessFlags := 2, code := some k8c0 }
def k8c1 : Code := { maxStack := 9, maxLocals := 2, code := prog_12_method_2_code, exceptionTable := #[], attributes := #[] }
def k8m1 : Method := { name := "of", desc := "(Ljava/lang/String;Ljava/lang/String;)Lcom/example/tables_as_queues/tablesasqueues/NewJob;", sig := { parameters := [(.object "java/lang/String"), (.object "java/lang/String")], returnType := some (.object "com/example/tables_as_queues/tablesasqueues/NewJob") }, accessFlags := 9, code := some k8c1 }
def k8c2 : Code := { maxStack := 1, maxLocals := 1, code := prog_12_method_8_code, exceptionTable := #[], attributes := #[] }
def k8m2 : Method := { name := "queue", desc := "()Ljava/lang/String;", sig := { parameters := [], returnType := some (.object "java/lang/String") }, accessFlags := 0, code := some k8c2 }
def k8c3 : Code := { maxStack := 1, maxLocals := 1, code := prog_12_method_9_code, exceptionTable := #[], attributes := #[] }
def k8m3 : Method := { name := "payload", desc := "()Ljava/lang/String;", sig := { parameters := [], returnType := some (.object "java/lang/String") }, accessFlags := 0, code := some k8c3 }
def k8c4 : Code := { maxStack := 1, maxLocals := 1, code := prog_12_method_10_code, exceptionTable := #[], attributes := #[] }
def k8m4 : Method := { name := "priority", desc := "()I", sig := { parameters := [], returnType := some .int }, accessFlags := 0, code := some k8c4 }
def k8c5 : Code := { maxStack := 1, maxLocals := 1, code := prog_12_method_11_code, exceptionTable := #[], attributes := #[] }
def k8m5 : Method := { name := "runAt", desc := "()Ljava/time/Instant;", sig := { parameters := [], returnType := some (.object "java/time/Instant") }, accessFlags := 0, code := some k8c5 }
def k8c6 : Code := { maxStack := 1, maxLocals := 1, code := prog_12_method_12_code, exceptionTable := #[], attributes := #[] }
def k8m6 : Method := { name := "delay", desc := "()Ljava/time/Duration;", sig := { parameters := [], returnType := some (.object "java/time/Duration") }, accessFlags := 0, code := some k8c6 }
def k8c7 : Code := { maxStack := 1, maxLocals := 1, code := prog_12_method_13_code, exceptionTable := #[], attributes := #[] }
def k8m7 : Method := { name := "maxAttempts", desc := "()I", sig := { parameters := [], returnType := some .int }, accessFlags := 0, code := some k8c7 }
def k8c8 : Code := { maxStack := 1, maxLocals := 1, code := prog_12_method_14_code, exceptionTable := #[], attributes := #[] }
def k8m8 : Method := { name := "idempotencyKey", desc := "()Ljava/lang/String;", sig := { parameters := [], returnType := some (.object "java/lang/String") }, accessFlags := 0, code := some k8c8 }
/-- com/example/tables_as_queues/tablesasqueues/NewJob -/
def k8 : Class := { plain "com/example/tables_as_queues/tablesasqueues/NewJob" (some 0) with
  accessFlags := 49
  interfaces := #[]
  cf := some (fileOf pool8 8 #[] #[{ accessFlags := 2, nameIndex := 5, descriptorIndex := 53, attributes := #[] }, { accessFlags := 9, nameIndex := 82, descriptorIndex := 83, attributes := #[] }, { accessFlags := 0, nameIndex := 11, descriptorIndex := 94, attributes := #[] }, { accessFlags := 0, nameIndex := 15, descriptorIndex := 94, attributes := #[] }, { accessFlags := 0, nameIndex := 18, descriptorIndex := 95, attributes := #[] }, { accessFlags := 0, nameIndex := 22, descriptorIndex := 96, attributes := #[] }, { accessFlags := 0, nameIndex := 26, descriptorIndex := 97, attributes := #[] }, { accessFlags := 0, nameIndex := 30, descriptorIndex := 95, attributes := #[] }, { accessFlags := 0, nameIndex := 33, descriptorIndex := 94, attributes := #[] }] 49 2 #[] #[{ accessFlags := 18, nameIndex := 11, descriptorIndex := 12, attributes := #[] }, { accessFlags := 18, nameIndex := 15, descriptorIndex := 12, attributes := #[] }, { accessFlags := 18, nameIndex := 18, descriptorIndex := 19, attributes := #[] }, { accessFlags := 18, nameIndex := 22, descriptorIndex := 23, attributes := #[] }, { accessFlags := 18, nameIndex := 26, descriptorIndex := 27, attributes := #[] }, { accessFlags := 18, nameIndex := 30, descriptorIndex := 19, attributes := #[] }, { accessFlags := 18, nameIndex := 33, descriptorIndex := 12, attributes := #[] }])
  fields := #[{ name := "queue", type := (.object "java/lang/String"), accessFlags := 18, slot := 0, constantValue := 0 }, { name := "payload", type := (.object "java/lang/String"), accessFlags := 18, slot := 1, constantValue := 0 }, { name := "priority", type := .int, accessFlags := 18, slot := 2, constantValue := 0 }, { name := "runAt", type := (.object "java/time/Instant"), accessFlags := 18, slot := 3, constantValue := 0 }, { name := "delay", type := (.object "java/time/Duration"), accessFlags := 18, slot := 4, constantValue := 0 }, { name := "maxAttempts", type := .int, accessFlags := 18, slot := 5, constantValue := 0 }, { name := "idempotencyKey", type := (.object "java/lang/String"), accessFlags := 18, slot := 6, constantValue := 0 }]
  methods := #[k8m0, k8m1, k8m2, k8m3, k8m4, k8m5, k8m6, k8m7, k8m8]
  instanceTypes := #[(.object "java/lang/String"), (.object "java/lang/String"), .int, (.object "java/time/Instant"), (.object "java/time/Duration"), .int, (.object "java/lang/String")]
  staticTypes := #[]
  resolved := Array.replicate 117 none
  statics := none }

def pool9 : Array CpInfo := pool [(2, .class_ 4), (1, u "java/lang/Object"), (0, u "<init>"), (0, u "()V"), (35, .class_ 44), (1, u "java/util/Objects"), (0, u "requireNonNull"), (48, u "(Ljava/lang/Object;Ljava/lang/String;)Ljava/lang/Object;")] 89

def k9m0 : Method := { name := "<init>", desc := "()V", sig := { parameters := [], returnType := none }, accessFlags := 2, code := none }
def k9c1 : Code := { maxStack := 3, maxLocals := 2, code := jdk_31_method_11_code, exceptionTable := #[], attributes := #[] }
def k9m1 : Method := { name := "requireNonNull", desc := "(Ljava/lang/Object;Ljava/lang/String;)Ljava/lang/Object;", sig := { parameters := [(.object "java/lang/Object"), (.object "java/lang/String")], returnType := some (.object "java/lang/Object") }, accessFlags := 9, code := some k9c1 }
/-- java/util/Objects -/
def k9 : Class := { plain "java/util/Objects" (some 0) with
  accessFlags := 49
  interfaces := #[]
  cf := some (fileOf pool9 42 #[] #[{ accessFlags := 2, nameIndex := 5, descriptorIndex := 6, attributes := #[] }, { accessFlags := 9, nameIndex := 45, descriptorIndex := 94, attributes := #[] }] 49 2 #[] #[])
  fields := #[]
  methods := #[k9m0, k9m1]
  instanceTypes := #[]
  staticTypes := #[]
  resolved := Array.replicate 184 none
  statics := none }

def pool10 : Array CpInfo := pool [(1, .class_ 2), (0, u "java/time/temporal/TemporalAmount"), (0, .class_ 4), (0, u "java/lang/Object")] 11

/-- java/time/temporal/TemporalAmount -/
def k10 : Class := { plain "java/time/temporal/TemporalAmount" (some 0) with
  accessFlags := 1537
  interfaces := #[]
  cf := some (fileOf pool10 1 #[] #[] 1537 3 #[] #[])
  fields := #[]
  methods := #[]
  instanceTypes := #[]
  staticTypes := #[]
  resolved := Array.replicate 16 none
  statics := none }

def pool11 : Array CpInfo := pool [(11, .class_ 13), (1, u "java/time/Duration"), (20, u "ZERO"), (0, u "Ljava/time/Duration;"), (13, .class_ 51), (1, u "java/time/temporal/TemporalAmount"), (27, .class_ 81), (1, u "java/time/Duration$Lazy"), (35, u "seconds"), (101, .class_ 220), (0, u "java/lang/Object"), (2, u "J"), (2, u "nanos"), (0, u "I"), (11, .class_ 241), (1, u "java/time/Duration$DurationUnits"), (27, .class_ 271), (1, u "java/time/Duration$1"), (91, u "BI_NANOS_PER_SECOND"), (0, u "Ljava/math/BigInteger;"), (120, .class_ 486), (0, u "java/lang/Comparable"), (0, .class_ 488), (0, u "java/io/Serializable"), (0, u "serialVersionUID")] 166

/-- java/time/Duration -/
def k11 : Class := { plain "java/time/Duration" (some 0) with
  accessFlags := 49
  interfaces := #[10, 3, 2]
  cf := some (fileOf pool11 11 #[.nestMembers #[269, 239, 79]] #[] 49 219 #[49, 485, 487] #[{ accessFlags := 25, nameIndex := 34, descriptorIndex := 35, attributes := #[] }, { accessFlags := 26, nameIndex := 489, descriptorIndex := 223, attributes := #[] }, { accessFlags := 26, nameIndex := 363, descriptorIndex := 364, attributes := #[] }, { accessFlags := 18, nameIndex := 117, descriptorIndex := 223, attributes := #[] }, { accessFlags := 18, nameIndex := 226, descriptorIndex := 227, attributes := #[] }])
  fields := #[{ name := "ZERO", type := (.object "java/time/Duration"), accessFlags := 25, slot := 0, constantValue := 0 }, { name := "serialVersionUID", type := .long, accessFlags := 26, slot := 1, constantValue := 0 }, { name := "BI_NANOS_PER_SECOND", type := (.object "java/math/BigInteger"), accessFlags := 26, slot := 2, constantValue := 0 }, { name := "seconds", type := .long, accessFlags := 18, slot := 0, constantValue := 0 }, { name := "nanos", type := .int, accessFlags := 18, slot := 1, constantValue := 0 }]
  methods := #[]
  instanceTypes := #[.long, .int]
  staticTypes := #[(.object "java/time/Duration"), .long, (.object "java/math/BigInteger")]
  resolved := Array.replicate 656 none
  statics := some 1 }

def pool12 : Array CpInfo := pool [(6, .class_ 8), (1, u "java/lang/Object"), (0, u "<init>"), (0, u "()V"), (1, .class_ 14), (1, u "java/lang/StringUTF16"), (31, u "$assertionsDisabled"), (0, u "Z"), (13, u "HI_BYTE_SHIFT"), (0, u "I"), (2, u "LO_BYTE_SHIFT"), (49, .methodref 12 116), (0, .nameAndType 117 118), (0, u "compress"), (0, u "([CI[BII)I"), (3, u "([CII)[B"), (138, u "coderFromArrayLen"), (0, u "([BI)B"), (106, .class_ 371), (1, u "java/lang/StringUTF16$LinesSpliterator"), (58, u "MAX_LENGTH"), (196, .class_ 628), (0, u "java/lang/StringUTF16$CodePointsSpliterator"), (0, .class_ 630), (0, u "java/lang/StringUTF16$CharsSpliterator")] 4

def k12m0 : Method := { name := "<init>", desc := "()V", sig := { parameters := [], returnType := none }, accessFlags := 0, code := none }
def k12c1 : Code := { maxStack := 2, maxLocals := 2, code := jdk_52_method_15_code, exceptionTable := #[], attributes := #[] }
def k12m1 : Method := { name := "coderFromArrayLen", desc := "([BI)B", sig := { parameters := [(.array .byte), .int], returnType := some .byte }, accessFlags := 8, code := some k12c1 }
def k12c2 : Code := { maxStack := 5, maxLocals := 6, code := jdk_52_method_16_code, exceptionTable := #[], attributes := #[] }
def k12m2 : Method := { name := "compress", desc := "([CII)[B", sig := { parameters := [(.array .char), .int, .int], returnType := some (.array .byte) }, accessFlags := 9, code := some k12c2 }
def k12c3 : Code := { maxStack := 3, maxLocals := 7, code := jdk_52_method_21_code, exceptionTable := #[], attributes := #[] }
def k12m3 : Method := { name := "compress", desc := "([CI[BII)I", sig := { parameters := [(.array .char), .int, (.array .byte), .int, .int], returnType := some .int }, accessFlags := 9, code := some k12c3 }
/-- java/lang/StringUTF16 -/
def k12 : Class := { plain "java/lang/StringUTF16" (some 0) with
  accessFlags := 48
  interfaces := #[]
  cf := some (fileOf pool12 12 #[.nestMembers #[627, 629, 369]] #[{ accessFlags := 0, nameIndex := 9, descriptorIndex := 10, attributes := #[] }, { accessFlags := 8, nameIndex := 261, descriptorIndex := 262, attributes := #[] }, { accessFlags := 9, nameIndex := 117, descriptorIndex := 122, attributes := #[] }, { accessFlags := 9, nameIndex := 117, descriptorIndex := 118, attributes := #[] }] 48 6 #[] #[{ accessFlags := 26, nameIndex := 61, descriptorIndex := 62, attributes := #[] }, { accessFlags := 26, nameIndex := 65, descriptorIndex := 62, attributes := #[] }, { accessFlags := 24, nameIndex := 430, descriptorIndex := 62, attributes := #[] }, { accessFlags := 4120, nameIndex := 46, descriptorIndex := 47, attributes := #[] }])
  fields := #[{ name := "HI_BYTE_SHIFT", type := .int, accessFlags := 26, slot := 0, constantValue := 0 }, { name := "LO_BYTE_SHIFT", type := .int, accessFlags := 26, slot := 1, constantValue := 0 }, { name := "MAX_LENGTH", type := .int, accessFlags := 24, slot := 2, constantValue := 0 }, { name := "$assertionsDisabled", type := .boolean, accessFlags := 4120, slot := 3, constantValue := 0 }]
  methods := #[k12m0, k12m1, k12m2, k12m3]
  instanceTypes := #[]
  staticTypes := #[.int, .int, .int, .boolean]
  resolved := Array.replicate 635 none
  statics := none }

def pool13 : Array CpInfo := pool [(4, .class_ 6), (1, u "java/lang/Object"), (0, u "<init>"), (0, u "()V"), (5, .class_ 16), (1, u "java/lang/StringLatin1"), (104, u "$assertionsDisabled"), (0, u "Z"), (98, .class_ 223), (1, u "java/lang/StringLatin1$LinesSpliterator"), (166, .class_ 391), (0, u "java/lang/StringLatin1$CharsSpliterator")] 3

def k13m0 : Method := { name := "<init>", desc := "()V", sig := { parameters := [], returnType := none }, accessFlags := 0, code := none }
/-- java/lang/StringLatin1 -/
def k13 : Class := { plain "java/lang/StringLatin1" (some 0) with
  accessFlags := 48
  interfaces := #[]
  cf := some (fileOf pool13 14 #[.nestMembers #[390, 221]] #[{ accessFlags := 0, nameIndex := 7, descriptorIndex := 8, attributes := #[] }] 48 4 #[] #[{ accessFlags := 4120, nameIndex := 121, descriptorIndex := 122, attributes := #[] }])
  fields := #[{ name := "$assertionsDisabled", type := .boolean, accessFlags := 4120, slot := 0, constantValue := 0 }]
  methods := #[k13m0]
  instanceTypes := #[]
  staticTypes := #[.boolean]
  resolved := Array.replicate 395 none
  statics := none }

def pool14 : Array CpInfo := pool [(2, .class_ 4), (1, u "java/lang/Object"), (0, u "<init>"), (0, u "()V"), (17, .class_ 26), (1, u "jdk/internal/util/Preconditions"), (28, .class_ 56), (0, u "jdk/internal/util/Preconditions$4"), (57, .class_ 115), (0, u "jdk/internal/util/Preconditions$1"), (7, u "SIOOBE_FORMATTER"), (0, u "Ljava/util/function/BiFunction;"), (0, .class_ 126), (0, u "jdk/internal/util/Preconditions$2"), (3, u "AIOOBE_FORMATTER"), (0, .class_ 132), (0, u "jdk/internal/util/Preconditions$3"), (3, u "IOOBE_FORMATTER")] 57

def k14m0 : Method := { name := "<init>", desc := "()V", sig := { parameters := [], returnType := none }, accessFlags := 1, code := none }
/-- jdk/internal/util/Preconditions -/
def k14 : Class := { plain "jdk/internal/util/Preconditions" (some 0) with
  accessFlags := 33
  interfaces := #[]
  cf := some (fileOf pool14 24 #[.nestMembers #[55, 131, 125, 114]] #[{ accessFlags := 1, nameIndex := 5, descriptorIndex := 6, attributes := #[] }] 33 2 #[] #[{ accessFlags := 25, nameIndex := 123, descriptorIndex := 124, attributes := #[] }, { accessFlags := 25, nameIndex := 130, descriptorIndex := 124, attributes := #[] }, { accessFlags := 25, nameIndex := 136, descriptorIndex := 124, attributes := #[] }])
  fields := #[{ name := "SIOOBE_FORMATTER", type := (.object "java/util/function/BiFunction"), accessFlags := 25, slot := 0, constantValue := 0 }, { name := "AIOOBE_FORMATTER", type := (.object "java/util/function/BiFunction"), accessFlags := 25, slot := 1, constantValue := 0 }, { name := "IOOBE_FORMATTER", type := (.object "java/util/function/BiFunction"), accessFlags := 25, slot := 2, constantValue := 0 }]
  methods := #[k14m0]
  instanceTypes := #[]
  staticTypes := #[(.object "java/util/function/BiFunction"), (.object "java/util/function/BiFunction"), (.object "java/util/function/BiFunction")]
  resolved := Array.replicate 194 none
  statics := some 2 }

def pool15 : Array CpInfo := pool [(9, u "<init>"), (6, .class_ 18), (1, u "java/lang/Object"), (0, u "()V"), (1, .class_ 23), (1, u "jdk/internal/util/ArraysSupport"), (0, u "LOG2_ARRAY_LONG_INDEX_SCALE"), (0, u "I"), (2, u "U"), (0, u "Ljdk/internal/misc/Unsafe;"), (8, u "BIG_ENDIAN"), (0, u "Z"), (8, u "LOG2_BYTE_BIT_SIZE"), (4, u "LOG2_ARRAY_INT_INDEX_SCALE"), (54, u "JLA"), (0, u "Ljdk/internal/access/JavaLangAccess;"), (11, u "LOG2_ARRAY_BOOLEAN_INDEX_SCALE"), (9, u "LOG2_ARRAY_BYTE_INDEX_SCALE"), (5, u "LOG2_ARRAY_CHAR_INDEX_SCALE"), (5, u "LOG2_ARRAY_SHORT_INDEX_SCALE"), (18, u "LOG2_ARRAY_FLOAT_INDEX_SCALE"), (24, u "LOG2_ARRAY_DOUBLE_INDEX_SCALE"), (89, u "T_BOOLEAN"), (2, u "T_CHAR"), (1, u "T_FLOAT"), (1, u "T_DOUBLE"), (1, u "T_BYTE"), (1, u "T_SHORT"), (1, u "T_INT"), (1, u "T_LONG"), (1, u "SOFT_MAX_ARRAY_LENGTH")] 83

def k15m0 : Method := { name := "<init>", desc := "()V", sig := { parameters := [], returnType := none }, accessFlags := 2, code := none }
/-- jdk/internal/util/ArraysSupport -/
def k15 : Class := { plain "jdk/internal/util/ArraysSupport" (some 0) with
  accessFlags := 33
  interfaces := #[]
  cf := some (fileOf pool15 21 #[] #[{ accessFlags := 2, nameIndex := 9, descriptorIndex := 19, attributes := #[] }] 33 16 #[] #[{ accessFlags := 24, nameIndex := 28, descriptorIndex := 29, attributes := #[] }, { accessFlags := 26, nameIndex := 38, descriptorIndex := 39, attributes := #[] }, { accessFlags := 25, nameIndex := 121, descriptorIndex := 25, attributes := #[] }, { accessFlags := 25, nameIndex := 131, descriptorIndex := 25, attributes := #[] }, { accessFlags := 25, nameIndex := 137, descriptorIndex := 25, attributes := #[] }, { accessFlags := 25, nameIndex := 143, descriptorIndex := 25, attributes := #[] }, { accessFlags := 25, nameIndex := 53, descriptorIndex := 25, attributes := #[] }, { accessFlags := 25, nameIndex := 24, descriptorIndex := 25, attributes := #[] }, { accessFlags := 25, nameIndex := 162, descriptorIndex := 25, attributes := #[] }, { accessFlags := 25, nameIndex := 187, descriptorIndex := 25, attributes := #[] }, { accessFlags := 26, nameIndex := 48, descriptorIndex := 25, attributes := #[] }, { accessFlags := 25, nameIndex := 277, descriptorIndex := 25, attributes := #[] }, { accessFlags := 25, nameIndex := 280, descriptorIndex := 25, attributes := #[] }, { accessFlags := 25, nameIndex := 282, descriptorIndex := 25, attributes := #[] }, { accessFlags := 25, nameIndex := 284, descriptorIndex := 25, attributes := #[] }, { accessFlags := 25, nameIndex := 286, descriptorIndex := 25, attributes := #[] }, { accessFlags := 25, nameIndex := 288, descriptorIndex := 25, attributes := #[] }, { accessFlags := 25, nameIndex := 290, descriptorIndex := 25, attributes := #[] }, { accessFlags := 25, nameIndex := 292, descriptorIndex := 25, attributes := #[] }, { accessFlags := 26, nameIndex := 108, descriptorIndex := 109, attributes := #[] }, { accessFlags := 25, nameIndex := 294, descriptorIndex := 25, attributes := #[] }])
  fields := #[{ name := "U", type := (.object "jdk/internal/misc/Unsafe"), accessFlags := 24, slot := 0, constantValue := 0 }, { name := "BIG_ENDIAN", type := .boolean, accessFlags := 26, slot := 1, constantValue := 0 }, { name := "LOG2_ARRAY_BOOLEAN_INDEX_SCALE", type := .int, accessFlags := 25, slot := 2, constantValue := 0 }, { name := "LOG2_ARRAY_BYTE_INDEX_SCALE", type := .int, accessFlags := 25, slot := 3, constantValue := 0 }, { name := "LOG2_ARRAY_CHAR_INDEX_SCALE", type := .int, accessFlags := 25, slot := 4, constantValue := 0 }, { name := "LOG2_ARRAY_SHORT_INDEX_SCALE", type := .int, accessFlags := 25, slot := 5, constantValue := 0 }, { name := "LOG2_ARRAY_INT_INDEX_SCALE", type := .int, accessFlags := 25, slot := 6, constantValue := 0 }, { name := "LOG2_ARRAY_LONG_INDEX_SCALE", type := .int, accessFlags := 25, slot := 7, constantValue := 0 }, { name := "LOG2_ARRAY_FLOAT_INDEX_SCALE", type := .int, accessFlags := 25, slot := 8, constantValue := 0 }, { name := "LOG2_ARRAY_DOUBLE_INDEX_SCALE", type := .int, accessFlags := 25, slot := 9, constantValue := 0 }, { name := "LOG2_BYTE_BIT_SIZE", type := .int, accessFlags := 26, slot := 10, constantValue := 0 }, { name := "T_BOOLEAN", type := .int, accessFlags := 25, slot := 11, constantValue := 0 }, { name := "T_CHAR", type := .int, accessFlags := 25, slot := 12, constantValue := 0 }, { name := "T_FLOAT", type := .int, accessFlags := 25, slot := 13, constantValue := 0 }, { name := "T_DOUBLE", type := .int, accessFlags := 25, slot := 14, constantValue := 0 }, { name := "T_BYTE", type := .int, accessFlags := 25, slot := 15, constantValue := 0 }, { name := "T_SHORT", type := .int, accessFlags := 25, slot := 16, constantValue := 0 }, { name := "T_INT", type := .int, accessFlags := 25, slot := 17, constantValue := 0 }, { name := "T_LONG", type := .int, accessFlags := 25, slot := 18, constantValue := 0 }, { name := "JLA", type := (.object "jdk/internal/access/JavaLangAccess"), accessFlags := 26, slot := 19, constantValue := 0 }, { name := "SOFT_MAX_ARRAY_LENGTH", type := .int, accessFlags := 25, slot := 20, constantValue := 0 }]
  methods := #[k15m0]
  instanceTypes := #[]
  staticTypes := #[(.object "jdk/internal/misc/Unsafe"), .boolean, .int, .int, .int, .int, .int, .int, .int, .int, .int, .int, .int, .int, .int, .int, .int, .int, .int, (.object "jdk/internal/access/JavaLangAccess"), .int]
  resolved := Array.replicate 378 none
  statics := none }

def pool16 : Array CpInfo := pool [(1, u "java/lang/Cloneable"), (0, .class_ 1), (0, u "java/lang/Object"), (0, .class_ 3)] 3

/-- java/lang/Cloneable -/
def k16 : Class := { plain "java/lang/Cloneable" (some 0) with
  accessFlags := 1537
  interfaces := #[]
  cf := some (fileOf pool16 2 #[] #[] 1537 4 #[] #[])
  fields := #[]
  methods := #[]
  instanceTypes := #[]
  staticTypes := #[]
  resolved := Array.replicate 8 none
  statics := none }

/-- the primitive byte -/
def k17 : Class := { plain "byte" none with kind := .primitive 'B', accessFlags := 0x411 }
/-- [B -/
def k18 : Class := { plain "[B" (some 0) with kind := .array 17 .byte, interfaces := #[16, 2], accessFlags := 1041 }

/-- the primitive char -/
def k19 : Class := { plain "char" none with kind := .primitive 'C', accessFlags := 0x411 }
/-- [C -/
def k20 : Class := { plain "[C" (some 0) with kind := .array 19 .char, interfaces := #[16, 2], accessFlags := 1041 }

/-- the primitive int -/
def k21 : Class := { plain "int" none with kind := .primitive 'I', accessFlags := 0x411 }
/-- [I -/
def k22 : Class := { plain "[I" (some 0) with kind := .array 21 .int, interfaces := #[16, 2], accessFlags := 1041 }

def heap : Heap := #[{ cls := 7, slots := #[.long 0, .int 1, .null, .int 0, .null, .int 0, .int 0], vm := .statics 7 },
  { cls := 11, slots := #[.ref 3, .long 0, .null], vm := .statics 11 },
  { cls := 14, slots := #[.null, .null, .null], vm := .statics 14 },
  { cls := 11, slots := #[.long 0, .int 0], vm := .none }]
def classes : Array Class := #[k0, k1, k2, k3, k4, k5, k6, k7, k8, k9, k10, k11, k12, k13, k14, k15, k16, k17, k18, k19, k20, k21, k22]
def interned : List (Array UInt16 × Addr) := []
def slotsUsed : Nat := 15
def theMethod : MethodId := ⟨1, 2⟩
def args0 : Array Value := #[.int 5, .int 5]
def aboutOver (below : List Frame) : State where
  vm := { classes := classes, interned := interned.toArray }
  heap := heap
  slotsUsed := slotsUsed
  threads := #[{ frames := .invoking theMethod args0 :: below }]
def below0 : List Frame := [.native { method := ⟨0, 0⟩, args := #[] }]
def about1 : State := aboutOver below0
def p0 : Program := .bare "" "" ""
def e0 : Env := launch0.env 0 0 0
theorem w_frames : about1.frames = Frame.invoking theMethod args0 :: below0 := rfl
set_option maxRecDepth 65536 in
theorem w_args : argsFit about1.vm theMethod args0 = true := by decide +kernel
set_option maxRecDepth 65536 in
theorem w_heap : heapFits about1 = true := by decide +kernel
set_option maxRecDepth 65536 in
theorem w_runnable : about1.curStatus? = some .runnable := by decide +kernel
set_option maxRecDepth 65536 in
theorem w_alone : about1.alone = true := by decide +kernel
set_option maxRecDepth 65536 in
theorem w_named : about1.methodNamed? x = some theMethod := by decide +kernel
set_option maxRecDepth 65536 in
theorem w_hears : about1.hears theMethod below0 = true := by decide +kernel
set_option maxRecDepth 65536 in
theorem w_ripe : about1.ripe theMethod args0 below0 = true := by decide +kernel
theorem w_running : about1.status = .running := rfl
set_option maxRecDepth 65536 in
theorem w_room : about1.hasRoom e0.platform room_1 = true :=
  launch0.hasRoom_least _ room_1 (by decide +kernel) (by decide +kernel) (by decide +kernel) (by decide +kernel) (by decide +kernel) (by decide +kernel)
theorem allAtoms_all (ts : List Jvm.Cond) (a : Array Jvm.Value) (st : Jvm.State) : (allAtoms ts).before a st = ts.all (fun c => c.before a st) := by
  induction ts with
  | nil => rfl
  | cons c t ih =>
    show (Jvm.Cond.and c (allAtoms t)).before a st = _
    rw [Jvm.Cond.before_and, ih, List.all_cons]
def words1 : List Jvm.Cond := Jvm.Cond.code x code maxLocals ret :: tables_1
/-- a 'code' word, met by the world's own term for the bytes: nothing is compared byte by byte -/
theorem code_word {y : MethodName} {bytes : ByteArray} {mx : Nat} {rt : Option FieldType} {a : Array Value} {s : State} {m : MethodId} {meth : Method} {c : Code} (h1 : s.methodNamed? y = some m) (h2 : s.vm.method? m = some meth) (h3 : meth.code = some c) (h4 : c.code = bytes)
    (h5 : (c.maxLocals == mx && c.exceptionTable.isEmpty && decide (c.maxStack ≤ mostOperands) && decide (meth.sig.returnType = rt) && !meth.locks && decide (parseMethodDescriptor y.desc = some meth.sig)) = true) : (Jvm.Cond.code y bytes mx rt).before a s = true := by
  simp only [Bool.and_eq_true, beq_iff_eq, Bool.not_eq_true', decide_eq_true_eq] at h5
  obtain ⟨⟨⟨⟨⟨g1, g2⟩, g3⟩, g4⟩, g5⟩, g6⟩ := h5
  simp [Cond.before, Cond.holds, Cond.value, h1, h2, h3, h4, g1, g2, g3, g4, g5, g6]
def isCode : Jvm.Cond → Bool
  | .code _ _ _ _ => true
  | _ => false
theorem all_split {L : List Jvm.Cond} {P : Jvm.Cond → Bool} (h1 : L.all (fun c => isCode c || P c) = true) (h2 : ∀ c ∈ L.filter isCode, P c = true) : L.all P = true := by
  refine List.all_eq_true.mpr fun c hc => ?_
  have h := List.all_eq_true.mp h1 c hc
  rcases Bool.eq_false_or_eq_true (isCode c) with hi | hi
  · exact h2 c (List.mem_filter.mpr ⟨hc, hi⟩)
  · simpa [hi] using h
set_option maxRecDepth 65536 in
theorem w_c0 : (Jvm.Cond.code x code maxLocals ret).before args0 about1 = true := code_word (m := ⟨1, 2⟩) (meth := k1m2) (c := k1c2) (by decide +kernel) rfl rfl rfl (by decide +kernel)
set_option maxRecDepth 65536 in
theorem w_c1 : (Jvm.Cond.code ({ cls := "com/example/tables_as_queues/tablesasqueues/NewJobOfPinLaw", name := "drawn", desc := "(I)Ljava/lang/String;" } : Jvm.MethodName) method_2_code (6 : Nat) (Option.some (Jvm.ClassFile.FieldType.object "java/lang/String"))).before args0 about1 = true := code_word (m := ⟨1, 1⟩) (meth := k1m1) (c := k1c1) (by decide +kernel) rfl rfl rfl (by decide +kernel)
set_option maxRecDepth 65536 in
theorem w_c2 : (Jvm.Cond.code ({ cls := "java/lang/String", name := "<init>", desc := "([C)V" } : Jvm.MethodName) jdk_42_method_3_code (2 : Nat) (Option.none : Option Jvm.ClassFile.FieldType)).before args0 about1 = true := code_word (m := ⟨7, 1⟩) (meth := k7m1) (c := k7c1) (by decide +kernel) rfl rfl rfl (by decide +kernel)
set_option maxRecDepth 65536 in
theorem w_c3 : (Jvm.Cond.code ({ cls := "java/lang/String", name := "<init>", desc := "([CIILjava/lang/Void;)V" } : Jvm.MethodName) jdk_42_method_149_code (6 : Nat) (Option.none : Option Jvm.ClassFile.FieldType)).before args0 about1 = true := code_word (m := ⟨7, 3⟩) (meth := k7m3) (c := k7c3) (by decide +kernel) rfl rfl rfl (by decide +kernel)
set_option maxRecDepth 65536 in
theorem w_c4 : (Jvm.Cond.code ({ cls := "java/lang/Object", name := "<init>", desc := "()V" } : Jvm.MethodName) object_method_1_code (1 : Nat) (Option.none : Option Jvm.ClassFile.FieldType)).before args0 about1 = true := code_word (m := ⟨0, 0⟩) (meth := k0m0) (c := k0c0) (by decide +kernel) rfl rfl rfl (by decide +kernel)
set_option maxRecDepth 65536 in
theorem w_c5 : (Jvm.Cond.code ({ cls := "com/example/tables_as_queues/tablesasqueues/NewJob", name := "of", desc := "(Ljava/lang/String;Ljava/lang/String;)Lcom/example/tables_as_queues/tablesasqueues/NewJob;" } : Jvm.MethodName) prog_12_method_2_code (2 : Nat) (Option.some (Jvm.ClassFile.FieldType.object "com/example/tables_as_queues/tablesasqueues/NewJob"))).before args0 about1 = true := code_word (m := ⟨8, 1⟩) (meth := k8m1) (c := k8c1) (by decide +kernel) rfl rfl rfl (by decide +kernel)
set_option maxRecDepth 65536 in
theorem w_c6 : (Jvm.Cond.code ({ cls := "java/util/Objects", name := "requireNonNull", desc := "(Ljava/lang/Object;Ljava/lang/String;)Ljava/lang/Object;" } : Jvm.MethodName) jdk_31_method_11_code (2 : Nat) (Option.some (Jvm.ClassFile.FieldType.object "java/lang/Object"))).before args0 about1 = true := code_word (m := ⟨9, 1⟩) (meth := k9m1) (c := k9c1) (by decide +kernel) rfl rfl rfl (by decide +kernel)
set_option maxRecDepth 65536 in
theorem w_c7 : (Jvm.Cond.code ({ cls := "com/example/tables_as_queues/tablesasqueues/NewJob", name := "<init>", desc := "(Ljava/lang/String;Ljava/lang/String;ILjava/time/Instant;Ljava/time/Duration;ILjava/lang/String;)V" } : Jvm.MethodName) prog_12_method_1_code (8 : Nat) (Option.none : Option Jvm.ClassFile.FieldType)).before args0 about1 = true := code_word (m := ⟨8, 0⟩) (meth := k8m0) (c := k8c0) (by decide +kernel) rfl rfl rfl (by decide +kernel)
set_option maxRecDepth 65536 in
theorem w_c8 : (Jvm.Cond.code ({ cls := "com/example/tables_as_queues/tablesasqueues/NewJob", name := "queue", desc := "()Ljava/lang/String;" } : Jvm.MethodName) prog_12_method_8_code (1 : Nat) (Option.some (Jvm.ClassFile.FieldType.object "java/lang/String"))).before args0 about1 = true := code_word (m := ⟨8, 2⟩) (meth := k8m2) (c := k8c2) (by decide +kernel) rfl rfl rfl (by decide +kernel)
set_option maxRecDepth 65536 in
theorem w_c9 : (Jvm.Cond.code ({ cls := "java/lang/String", name := "equals", desc := "(Ljava/lang/Object;)Z" } : Jvm.MethodName) jdk_42_method_66_code (3 : Nat) (Option.some Jvm.ClassFile.FieldType.boolean)).before args0 about1 = true := code_word (m := ⟨7, 2⟩) (meth := k7m2) (c := k7c2) (by decide +kernel) rfl rfl rfl (by decide +kernel)
set_option maxRecDepth 65536 in
theorem w_c10 : (Jvm.Cond.code ({ cls := "com/example/tables_as_queues/tablesasqueues/NewJob", name := "payload", desc := "()Ljava/lang/String;" } : Jvm.MethodName) prog_12_method_9_code (1 : Nat) (Option.some (Jvm.ClassFile.FieldType.object "java/lang/String"))).before args0 about1 = true := code_word (m := ⟨8, 3⟩) (meth := k8m3) (c := k8c3) (by decide +kernel) rfl rfl rfl (by decide +kernel)
set_option maxRecDepth 65536 in
theorem w_c11 : (Jvm.Cond.code ({ cls := "com/example/tables_as_queues/tablesasqueues/NewJob", name := "priority", desc := "()I" } : Jvm.MethodName) prog_12_method_10_code (1 : Nat) (Option.some Jvm.ClassFile.FieldType.int)).before args0 about1 = true := code_word (m := ⟨8, 4⟩) (meth := k8m4) (c := k8c4) (by decide +kernel) rfl rfl rfl (by decide +kernel)
set_option maxRecDepth 65536 in
theorem w_c12 : (Jvm.Cond.code ({ cls := "com/example/tables_as_queues/tablesasqueues/NewJob", name := "runAt", desc := "()Ljava/time/Instant;" } : Jvm.MethodName) prog_12_method_11_code (1 : Nat) (Option.some (Jvm.ClassFile.FieldType.object "java/time/Instant"))).before args0 about1 = true := code_word (m := ⟨8, 5⟩) (meth := k8m5) (c := k8c5) (by decide +kernel) rfl rfl rfl (by decide +kernel)
set_option maxRecDepth 65536 in
theorem w_c13 : (Jvm.Cond.code ({ cls := "com/example/tables_as_queues/tablesasqueues/NewJob", name := "delay", desc := "()Ljava/time/Duration;" } : Jvm.MethodName) prog_12_method_12_code (1 : Nat) (Option.some (Jvm.ClassFile.FieldType.object "java/time/Duration"))).before args0 about1 = true := code_word (m := ⟨8, 6⟩) (meth := k8m6) (c := k8c6) (by decide +kernel) rfl rfl rfl (by decide +kernel)
set_option maxRecDepth 65536 in
theorem w_c14 : (Jvm.Cond.code ({ cls := "com/example/tables_as_queues/tablesasqueues/NewJob", name := "maxAttempts", desc := "()I" } : Jvm.MethodName) prog_12_method_13_code (1 : Nat) (Option.some Jvm.ClassFile.FieldType.int)).before args0 about1 = true := code_word (m := ⟨8, 7⟩) (meth := k8m7) (c := k8c7) (by decide +kernel) rfl rfl rfl (by decide +kernel)
set_option maxRecDepth 65536 in
theorem w_c15 : (Jvm.Cond.code ({ cls := "com/example/tables_as_queues/tablesasqueues/NewJob", name := "idempotencyKey", desc := "()Ljava/lang/String;" } : Jvm.MethodName) prog_12_method_14_code (1 : Nat) (Option.some (Jvm.ClassFile.FieldType.object "java/lang/String"))).before args0 about1 = true := code_word (m := ⟨8, 8⟩) (meth := k8m8) (c := k8c8) (by decide +kernel) rfl rfl rfl (by decide +kernel)
set_option maxRecDepth 65536 in
theorem w_c16 : (Jvm.Cond.code ({ cls := "java/lang/StringUTF16", name := "compress", desc := "([CII)[B" } : Jvm.MethodName) jdk_52_method_16_code (6 : Nat) (Option.some (Jvm.ClassFile.FieldType.array Jvm.ClassFile.FieldType.byte))).before args0 about1 = true := code_word (m := ⟨12, 2⟩) (meth := k12m2) (c := k12c2) (by decide +kernel) rfl rfl rfl (by decide +kernel)
set_option maxRecDepth 65536 in
theorem w_c17 : (Jvm.Cond.code ({ cls := "java/lang/StringUTF16", name := "compress", desc := "([CI[BII)I" } : Jvm.MethodName) jdk_52_method_21_code (7 : Nat) (Option.some Jvm.ClassFile.FieldType.int)).before args0 about1 = true := code_word (m := ⟨12, 3⟩) (meth := k12m3) (c := k12c3) (by decide +kernel) rfl rfl rfl (by decide +kernel)
set_option maxRecDepth 65536 in
theorem w_c18 : (Jvm.Cond.code ({ cls := "java/lang/StringUTF16", name := "coderFromArrayLen", desc := "([BI)B" } : Jvm.MethodName) jdk_52_method_15_code (2 : Nat) (Option.some Jvm.ClassFile.FieldType.byte)).before args0 about1 = true := code_word (m := ⟨12, 1⟩) (meth := k12m1) (c := k12c1) (by decide +kernel) rfl rfl rfl (by decide +kernel)
def codes1 : List Jvm.Cond := [Jvm.Cond.code x code maxLocals ret, Jvm.Cond.code ({ cls := "com/example/tables_as_queues/tablesasqueues/NewJobOfPinLaw", name := "drawn", desc := "(I)Ljava/lang/String;" } : Jvm.MethodName) method_2_code (6 : Nat) (Option.some (Jvm.ClassFile.FieldType.object "java/lang/String")), Jvm.Cond.code ({ cls := "java/lang/String", name := "<init>", desc := "([C)V" } : Jvm.MethodName) jdk_42_method_3_code (2 : Nat) (Option.none : Option Jvm.ClassFile.FieldType), Jvm.Cond.code ({ cls := "java/lang/String", name := "<init>", desc := "([CIILjava/lang/Void;)V" } : Jvm.MethodName) jdk_42_method_149_code (6 : Nat) (Option.none : Option Jvm.ClassFile.FieldType), Jvm.Cond.code ({ cls := "java/lang/Object", name := "<init>", desc := "()V" } : Jvm.MethodName) object_method_1_code (1 : Nat) (Option.none : Option Jvm.ClassFile.FieldType), Jvm.Cond.code ({ cls := "com/example/tables_as_queues/tablesasqueues/NewJob", name := "of", desc := "(Ljava/lang/String;Ljava/lang/String;)Lcom/example/tables_as_queues/tablesasqueues/NewJob;" } : Jvm.MethodName) prog_12_method_2_code (2 : Nat) (Option.some (Jvm.ClassFile.FieldType.object "com/example/tables_as_queues/tablesasqueues/NewJob")), Jvm.Cond.code ({ cls := "java/util/Objects", name := "requireNonNull", desc := "(Ljava/lang/Object;Ljava/lang/String;)Ljava/lang/Object;" } : Jvm.MethodName) jdk_31_method_11_code (2 : Nat) (Option.some (Jvm.ClassFile.FieldType.object "java/lang/Object")), Jvm.Cond.code ({ cls := "com/example/tables_as_queues/tablesasqueues/NewJob", name := "<init>", desc := "(Ljava/lang/String;Ljava/lang/String;ILjava/time/Instant;Ljava/time/Duration;ILjava/lang/String;)V" } : Jvm.MethodName) prog_12_method_1_code (8 : Nat) (Option.none : Option Jvm.ClassFile.FieldType), Jvm.Cond.code ({ cls := "com/example/tables_as_queues/tablesasqueues/NewJob", name := "queue", desc := "()Ljava/lang/String;" } : Jvm.MethodName) prog_12_method_8_code (1 : Nat) (Option.some (Jvm.ClassFile.FieldType.object "java/lang/String")), Jvm.Cond.code ({ cls := "java/lang/String", name := "equals", desc := "(Ljava/lang/Object;)Z" } : Jvm.MethodName) jdk_42_method_66_code (3 : Nat) (Option.some Jvm.ClassFile.FieldType.boolean), Jvm.Cond.code ({ cls := "com/example/tables_as_queues/tablesasqueues/NewJob", name := "payload", desc := "()Ljava/lang/String;" } : Jvm.MethodName) prog_12_method_9_code (1 : Nat) (Option.some (Jvm.ClassFile.FieldType.object "java/lang/String")), Jvm.Cond.code ({ cls := "com/example/tables_as_queues/tablesasqueues/NewJob", name := "priority", desc := "()I" } : Jvm.MethodName) prog_12_method_10_code (1 : Nat) (Option.some Jvm.ClassFile.FieldType.int), Jvm.Cond.code ({ cls := "com/example/tables_as_queues/tablesasqueues/NewJob", name := "runAt", desc := "()Ljava/time/Instant;" } : Jvm.MethodName) prog_12_method_11_code (1 : Nat) (Option.some (Jvm.ClassFile.FieldType.object "java/time/Instant")), Jvm.Cond.code ({ cls := "com/example/tables_as_queues/tablesasqueues/NewJob", name := "delay", desc := "()Ljava/time/Duration;" } : Jvm.MethodName) prog_12_method_12_code (1 : Nat) (Option.some (Jvm.ClassFile.FieldType.object "java/time/Duration")), Jvm.Cond.code ({ cls := "com/example/tables_as_queues/tablesasqueues/NewJob", name := "maxAttempts", desc := "()I" } : Jvm.MethodName) prog_12_method_13_code (1 : Nat) (Option.some Jvm.ClassFile.FieldType.int), Jvm.Cond.code ({ cls := "com/example/tables_as_queues/tablesasqueues/NewJob", name := "idempotencyKey", desc := "()Ljava/lang/String;" } : Jvm.MethodName) prog_12_method_14_code (1 : Nat) (Option.some (Jvm.ClassFile.FieldType.object "java/lang/String")), Jvm.Cond.code ({ cls := "java/lang/StringUTF16", name := "compress", desc := "([CII)[B" } : Jvm.MethodName) jdk_52_method_16_code (6 : Nat) (Option.some (Jvm.ClassFile.FieldType.array Jvm.ClassFile.FieldType.byte)), Jvm.Cond.code ({ cls := "java/lang/StringUTF16", name := "compress", desc := "([CI[BII)I" } : Jvm.MethodName) jdk_52_method_21_code (7 : Nat) (Option.some Jvm.ClassFile.FieldType.int), Jvm.Cond.code ({ cls := "java/lang/StringUTF16", name := "coderFromArrayLen", desc := "([BI)B" } : Jvm.MethodName) jdk_52_method_15_code (2 : Nat) (Option.some Jvm.ClassFile.FieldType.byte)]
set_option maxRecDepth 65536 in
theorem codes_eq : words1.filter isCode = codes1 := rfl
theorem w_codes : ∀ c ∈ words1.filter isCode, c.before args0 about1 = true := by
  rw [codes_eq]
  intro c hc
  simp only [codes1, List.mem_cons, List.not_mem_nil, or_false] at hc
  rcases hc with rfl | rfl | rfl | rfl | rfl | rfl | rfl | rfl | rfl | rfl | rfl | rfl | rfl | rfl | rfl | rfl | rfl | rfl | rfl
  · exact w_c0
  · exact w_c1
  · exact w_c2
  · exact w_c3
  · exact w_c4
  · exact w_c5
  · exact w_c6
  · exact w_c7
  · exact w_c8
  · exact w_c9
  · exact w_c10
  · exact w_c11
  · exact w_c12
  · exact w_c13
  · exact w_c14
  · exact w_c15
  · exact w_c16
  · exact w_c17
  · exact w_c18
set_option maxRecDepth 65536 in
theorem w_t1 : (words1.take 24).all (fun c => isCode c || c.before args0 about1) = true := by decide +kernel
set_option maxRecDepth 65536 in
theorem w_t2 : ((words1.drop 24).take 24).all (fun c => isCode c || c.before args0 about1) = true := by decide +kernel
set_option maxRecDepth 65536 in
theorem w_t3 : (((words1.drop 24).drop 24).take 24).all (fun c => isCode c || c.before args0 about1) = true := by decide +kernel
set_option maxRecDepth 65536 in
theorem w_t4 : ((((words1.drop 24).drop 24).drop 24).take 24).all (fun c => isCode c || c.before args0 about1) = true := by decide +kernel
set_option maxRecDepth 65536 in
theorem w_t5 : ((((words1.drop 24).drop 24).drop 24).drop 24).all (fun c => isCode c || c.before args0 about1) = true := by decide +kernel
theorem w_tables : (allAtoms (Jvm.Cond.code x code maxLocals ret :: tables_1)).before args0 about1 = true := by
  rw [allAtoms_all]
  show words1.all (fun c => c.before args0 about1) = true
  refine all_split ?_ w_codes
  rw [← List.take_append_drop 24 words1, List.all_append, w_t1, ← List.take_append_drop 24 (words1.drop 24), List.all_append, w_t2, ← List.take_append_drop 24 ((words1.drop 24).drop 24), List.all_append, w_t3, ← List.take_append_drop 24 (((words1.drop 24).drop 24).drop 24), List.all_append, w_t4, w_t5]
  rfl
set_option maxRecDepth 65536 in
theorem w_rest : rest_1_c.before args0 about1 = true := by decide +kernel
set_option maxRecDepth 65536 in
theorem w_case : (Jvm.Cond.and given_1 narrow_1).before args0 about1 = true := by decide +kernel
set_option maxRecDepth 65536 in
theorem w_consts : constsHeld consts_1 about1 := Jvm.Lit.constsHeldB_iff.mp (by decide +kernel)
theorem w_applies : (headSpec (Jvm.Cond.code x code maxLocals ret :: tables_1) room_1).applies x e0.platform about1 = true :=
  (Spec.applies_iff w_frames).mpr ⟨w_running, w_runnable, w_alone, w_named, w_hears, w_ripe, w_room, w_tables⟩
theorem atStart : AtStart classFile x code maxLocals ret World_1 tables_1 room_1 Calls_1 rest_1 Pre_1 launch0 p0 e0 about1 theMethod args0 below0 :=
  ⟨lists_1, trivial, launch0.admits_env _ _ _, launch0.least_env, fairChoices_fair.cas, fairChoices_fair.clock, w_frames, w_args, w_heap, w_applies, ⟨w_consts, trivial⟩, w_rest, w_case⟩
end start1
theorem witness_1 : WitnessClaimed_1 := ⟨start1.p0, start1.e0, start1.about1, start1.theMethod, start1.args0, start1.below0, start1.atStart⟩
end Jvm.Pilot.@@N@@
