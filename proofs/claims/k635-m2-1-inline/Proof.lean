import JvmDerived
import JvmDerived.Pilot.@@N@@Statement
import JvmDerived.Pilot.@@N@@Code
set_option linter.unusedVariables false
set_option linter.unusedSimpArgs false
namespace Jvm.Pilot.@@N@@
namespace W
open Jvm Jvm.ClassFile Sem Op Lib Jvm.Free Jvm.Stand Jvm.LawKit Jvm.RoadKit Bundle
/-- from U the run comes to an end that says G -/
def Go (tb : Tables) (e : Env) (below : List Frame) (G : Outcome → State → Prop) (U : State) : Prop := ∃ s₂ o, Steps tb e below U s₂ ∧ s₂.status = .running ∧ Ended s₂ below o ∧ G o s₂
theorem Go.via {tb : Tables} {e : Env} {below : List Frame} {G : Outcome → State → Prop} {U V : State} (f : ∀ t, Steps tb e below V t → Steps tb e below U t) (k : Go tb e below G V) : Go tb e below G U := by
  obtain ⟨s₂, o, h1, h⟩ := k; exact ⟨s₂, o, f _ h1, h⟩
theorem Go.tr {tb : Tables} {e : Env} {below : List Frame} {G : Outcome → State → Prop} {U V : State} (f : Steps tb e below U V) (k : Go tb e below G V) : Go tb e below G U := by
  obtain ⟨s₂, o, h1, h⟩ := k; exact ⟨s₂, o, f.trans h1, h⟩
/-- what a comparison of two ints says -/
abbrev cv (cd : ClassFile.Cond) (a b : Int32) : Prop := match cd with
  | .eq => a = b
  | .ne => ¬ a = b
  | .lt => a < b
  | .ge => ¬ a < b
  | .gt => b < a
  | .le => ¬ b < a
theorem cvY {cd : ClassFile.Cond} {a b : Int32} (q : cv cd a b) : if_icmp.holds cd a b = true := by
  cases cd
  · exact (teq q).1
  · exact (feq q).2
  · exact (tlt q).1
  · exact (flt q).2.1
  · exact (tlt q).2.2.1
  · exact (flt q).2.2.2
theorem cvN {cd : ClassFile.Cond} {a b : Int32} (q : ¬ cv cd a b) : if_icmp.holds cd a b = false := by
  cases cd
  · exact (feq q).1
  · exact (teq (Decidable.byContradiction q)).2
  · exact (flt q).1
  · exact (tlt (Decidable.byContradiction q)).2.1
  · exact (flt q).2.2.1
  · exact (tlt (Decidable.byContradiction q)).2.2.2
theorem cvD (cd : ClassFile.Cond) (a b : Int32) : cv cd a b ∨ ¬ cv cd a b := Classical.em _
abbrev Q0 (p : Program) (T : State) (m : MethodId) (c : Code) (below : List Frame) (code : ByteArray) : Prop := At T m c below ∧ p.tables.exec = Jvm.exec ∧ c.code = code
theorem catR {v : Value} (h : v.isRef = true) : v.category = 1 := by cases v <;> first | rfl | cases h
theorem stR {ls ls2 : Array Slot} {k : Nat} {v : Value} {o : Slot} (hv : v.isRef = true) (hold : ls[k]? = some o) (ho : One o) (h2 : ls.setIfInBounds k (.val v) = ls2) : storeLocals ls k v = some ls2 := by
  rw [← h2]; exact Jvm.Free.XS.store1 hold ho (catR hv)
section Plain
variable {p : Program} {e : Env} {below : List Frame} {G : Outcome → State → Prop} {T : State} {m : MethodId} {c : Code} {code : ByteArray} {pc pc1 pc2 : Nat} {ls ls2 : Array Slot} {st : List Value}

theorem g_iloadN (q : Q0 p T m c below code) {k : Fin 4} {v : Int32} (hd : decode code pc = .ok (.iload_n k, 1)) (hl : ls[k.val]? = some (.val (.int v))) (hp : pc + 1 = pc1) (K : Go p.tables e below G (T.setTop (mkF m pc1 ls (.int v :: st)))) : Go p.tables e below G (T.setTop (mkF m pc ls st)) := by
  subst hp; exact Go.via (fun _ k => Jvm.Free.XS.iloadN q.1 q.2.1 rfl (hb q.2.2 hd) hl k) K
theorem g_aloadN (q : Q0 p T m c below code) {k : Fin 4} {v : Value} (hd : decode code pc = .ok (.aload_n k, 1)) (hl : ls[k.val]? = some (.val v)) (hv : v.isRef = true) (hp : pc + 1 = pc1) (K : Go p.tables e below G (T.setTop (mkF m pc1 ls (v :: st)))) : Go p.tables e below G (T.setTop (mkF m pc ls st)) := by
  subst hp; exact Go.via (fun _ k => Jvm.Free.XS.aloadN q.1 q.2.1 rfl (hb q.2.2 hd) hl hv k) K
theorem g_istoreN (q : Q0 p T m c below code) {k : Fin 4} {v : Int32} (hd : decode code pc = .ok (.istore_n k, 1)) (hl : storeLocals ls k.val (.int v) = some ls2) (hp : pc + 1 = pc1) (K : Go p.tables e below G (T.setTop (mkF m pc1 ls2 st))) : Go p.tables e below G (T.setTop (mkF m pc ls (.int v :: st))) := by
  subst hp; exact Go.via (fun _ k => Jvm.Free.XS.istoreN q.1 q.2.1 rfl (hb q.2.2 hd) rfl hl k) K
theorem g_astoreN (q : Q0 p T m c below code) {k : Fin 4} {v : Value} (hd : decode code pc = .ok (.astore_n k, 1)) (hv : v.isRef = true) (hl : storeLocals ls k.val v = some ls2) (hp : pc + 1 = pc1) (K : Go p.tables e below G (T.setTop (mkF m pc1 ls2 st))) : Go p.tables e below G (T.setTop (mkF m pc ls (v :: st))) := by
  subst hp; exact Go.via (fun _ k => Jvm.Free.XS.astoreN q.1 q.2.1 rfl (hb q.2.2 hd) rfl hv hl k) K
theorem g_lloadN (q : Q0 p T m c below code) {k : Fin 4} {v : Int64} (hd : decode code pc = .ok (.lload_n k, 1)) (hl : ls[k.val]? = some (.val (.long v))) (hp : pc + 1 = pc1) (K : Go p.tables e below G (T.setTop (mkF m pc1 ls (.long v :: st)))) : Go p.tables e below G (T.setTop (mkF m pc ls st)) := by
  subst hp; exact Go.via (fun _ k => Jvm.Free.XT.lloadN q.1 q.2.1 rfl (hb q.2.2 hd) hl k) K
theorem g_lstoreN (q : Q0 p T m c below code) {k : Fin 4} {v : Int64} (hd : decode code pc = .ok (.lstore_n k, 1)) (hl : storeLocals ls k.val (.long v) = some ls2) (hp : pc + 1 = pc1) (K : Go p.tables e below G (T.setTop (mkF m pc1 ls2 st))) : Go p.tables e below G (T.setTop (mkF m pc ls (.long v :: st))) := by
  subst hp; exact Go.via (fun _ k => Jvm.Free.XT.lstoreN q.1 q.2.1 rfl (hb q.2.2 hd) rfl hl k) K
theorem g_iload (q : Q0 p T m c below code) {k : Nat} {v : Int32} (hd : decode code pc = .ok (.iload k, 2)) (hl : ls[k]? = some (.val (.int v))) (hp : pc + 2 = pc1) (K : Go p.tables e below G (T.setTop (mkF m pc1 ls (.int v :: st)))) : Go p.tables e below G (T.setTop (mkF m pc ls st)) := by
  subst hp; exact Go.via (fun _ k => Jvm.Free.XS.iload q.1 q.2.1 rfl (hb q.2.2 hd) hl k) K
theorem g_aload (q : Q0 p T m c below code) {k : Nat} {v : Value} (hd : decode code pc = .ok (.aload k, 2)) (hl : ls[k]? = some (.val v)) (hv : v.isRef = true) (hp : pc + 2 = pc1) (K : Go p.tables e below G (T.setTop (mkF m pc1 ls (v :: st)))) : Go p.tables e below G (T.setTop (mkF m pc ls st)) := by
  subst hp; exact Go.via (fun _ k => Jvm.Free.XS.aload q.1 q.2.1 rfl (hb q.2.2 hd) hl hv k) K
theorem g_istore (q : Q0 p T m c below code) {k : Nat} {v : Int32} (hd : decode code pc = .ok (.istore k, 2)) (hl : storeLocals ls k (.int v) = some ls2) (hp : pc + 2 = pc1) (K : Go p.tables e below G (T.setTop (mkF m pc1 ls2 st))) : Go p.tables e below G (T.setTop (mkF m pc ls (.int v :: st))) := by
  subst hp; exact Go.via (fun _ k => Jvm.Free.XS.istore q.1 q.2.1 rfl (hb q.2.2 hd) rfl hl k) K
theorem g_astore (q : Q0 p T m c below code) {k : Nat} {v : Value} (hd : decode code pc = .ok (.astore k, 2)) (hv : v.isRef = true) (hl : storeLocals ls k v = some ls2) (hp : pc + 2 = pc1) (K : Go p.tables e below G (T.setTop (mkF m pc1 ls2 st))) : Go p.tables e below G (T.setTop (mkF m pc ls (v :: st))) := by
  subst hp; exact Go.via (fun _ k => Jvm.Free.XS.astore q.1 q.2.1 rfl (hb q.2.2 hd) rfl hv hl k) K
theorem g_lload (q : Q0 p T m c below code) {k : Nat} {v : Int64} (hd : decode code pc = .ok (.lload k, 2)) (hl : ls[k]? = some (.val (.long v))) (hp : pc + 2 = pc1) (K : Go p.tables e below G (T.setTop (mkF m pc1 ls (.long v :: st)))) : Go p.tables e below G (T.setTop (mkF m pc ls st)) := by
  subst hp; exact Go.via (fun _ k => Jvm.Free.XT.lload q.1 q.2.1 rfl (hb q.2.2 hd) hl k) K
theorem g_lstore (q : Q0 p T m c below code) {k : Nat} {v : Int64} (hd : decode code pc = .ok (.lstore k, 2)) (hl : storeLocals ls k (.long v) = some ls2) (hp : pc + 2 = pc1) (K : Go p.tables e below G (T.setTop (mkF m pc1 ls2 st))) : Go p.tables e below G (T.setTop (mkF m pc ls (.long v :: st))) := by
  subst hp; exact Go.via (fun _ k => Jvm.Free.XT.lstore q.1 q.2.1 rfl (hb q.2.2 hd) rfl hl k) K
theorem g_iconst (q : Q0 p T m c below code) {i : Int} {v : Int32} (hd : decode code pc = .ok (.iconst i, 1)) (hv : Int32.ofInt i = v) (hp : pc + 1 = pc1) (K : Go p.tables e below G (T.setTop (mkF m pc1 ls (.int v :: st)))) : Go p.tables e below G (T.setTop (mkF m pc ls st)) := by
  subst hp; exact Go.via (fun _ k => Jvm.Free.XS.iconst q.1 q.2.1 rfl (hb q.2.2 hd) (hv ▸ k)) K
theorem g_bipush (q : Q0 p T m c below code) {i : Int} {v : Int32} (hd : decode code pc = .ok (.bipush i, 2)) (hv : (Int8.ofInt i).toInt32 = v) (hp : pc + 2 = pc1) (K : Go p.tables e below G (T.setTop (mkF m pc1 ls (.int v :: st)))) : Go p.tables e below G (T.setTop (mkF m pc ls st)) := by
  subst hp; exact Go.via (fun _ k => Jvm.Free.XS.bipush q.1 q.2.1 rfl (hb q.2.2 hd) (hv ▸ k)) K
theorem g_sipush (q : Q0 p T m c below code) {i : Int} {v : Int32} (hd : decode code pc = .ok (.sipush i, 3)) (hv : (Int16.ofInt i).toInt32 = v) (hp : pc + 3 = pc1) (K : Go p.tables e below G (T.setTop (mkF m pc1 ls (.int v :: st)))) : Go p.tables e below G (T.setTop (mkF m pc ls st)) := by
  subst hp; exact Go.via (fun _ k => Jvm.Free.XS.sipush q.1 q.2.1 rfl (hb q.2.2 hd) (hv ▸ k)) K
theorem g_null (q : Q0 p T m c below code)  (hd : decode code pc = .ok (.aconst_null, 1))  (hp : pc + 1 = pc1) (K : Go p.tables e below G (T.setTop (mkF m pc1 ls (.null :: st)))) : Go p.tables e below G (T.setTop (mkF m pc ls st)) := by
  subst hp; exact Go.via (fun _ k => Jvm.Free.XS.aconstNull q.1 q.2.1 rfl (hb q.2.2 hd) k) K
theorem g_iadd (q : Q0 p T m c below code) {x y : Int32} (hd : decode code pc = .ok (.iadd, 1))  (hp : pc + 1 = pc1) (K : Go p.tables e below G (T.setTop (mkF m pc1 ls (.int (x + y) :: st)))) : Go p.tables e below G (T.setTop (mkF m pc ls (.int y :: .int x :: st))) := by
  subst hp; exact Go.via (fun _ k => Jvm.Free.XS.iadd q.1 q.2.1 rfl (hb q.2.2 hd) rfl k) K
theorem g_isub (q : Q0 p T m c below code) {x y : Int32} (hd : decode code pc = .ok (.isub, 1))  (hp : pc + 1 = pc1) (K : Go p.tables e below G (T.setTop (mkF m pc1 ls (.int (x - y) :: st)))) : Go p.tables e below G (T.setTop (mkF m pc ls (.int y :: .int x :: st))) := by
  subst hp; exact Go.via (fun _ k => Jvm.Free.XS.isub q.1 q.2.1 rfl (hb q.2.2 hd) rfl k) K
theorem g_iand (q : Q0 p T m c below code) {x y : Int32} (hd : decode code pc = .ok (.iand, 1))  (hp : pc + 1 = pc1) (K : Go p.tables e below G (T.setTop (mkF m pc1 ls (.int (x &&& y) :: st)))) : Go p.tables e below G (T.setTop (mkF m pc ls (.int y :: .int x :: st))) := by
  subst hp; exact Go.via (fun _ k => Jvm.Free.XS.iand q.1 q.2.1 rfl (hb q.2.2 hd) rfl k) K
theorem g_imul (q : Q0 p T m c below code) {x y : Int32} (hd : decode code pc = .ok (.imul, 1))  (hp : pc + 1 = pc1) (K : Go p.tables e below G (T.setTop (mkF m pc1 ls (.int (x * y) :: st)))) : Go p.tables e below G (T.setTop (mkF m pc ls (.int y :: .int x :: st))) := by
  subst hp; exact Go.via (fun _ k => Jvm.Free.XS.imul q.1 q.2.1 rfl (hb q.2.2 hd) rfl k) K
theorem g_irem (q : Q0 p T m c below code) {x y : Int32} (hd : decode code pc = .ok (.irem, 1)) (hy : y ≠ 0) (hp : pc + 1 = pc1) (K : Go p.tables e below G (T.setTop (mkF m pc1 ls (.int (x - (x / y) * y) :: st)))) : Go p.tables e below G (T.setTop (mkF m pc ls (.int y :: .int x :: st))) := by
  subst hp; exact Go.via (fun _ k => Jvm.Free.XS.irem q.1 q.2.1 rfl (hb q.2.2 hd) rfl hy k) K
theorem g_idiv (q : Q0 p T m c below code) {x y : Int32} (hd : decode code pc = .ok (.idiv, 1)) (hy : y ≠ 0) (hp : pc + 1 = pc1) (K : Go p.tables e below G (T.setTop (mkF m pc1 ls (.int (x / y) :: st)))) : Go p.tables e below G (T.setTop (mkF m pc ls (.int y :: .int x :: st))) := by
  subst hp; exact Go.via (fun _ k => Jvm.Free.XS.idiv q.1 q.2.1 rfl (hb q.2.2 hd) rfl hy k) K
theorem g_ineg (q : Q0 p T m c below code) {x : Int32} (hd : decode code pc = .ok (.ineg, 1))  (hp : pc + 1 = pc1) (K : Go p.tables e below G (T.setTop (mkF m pc1 ls (.int (-x) :: st)))) : Go p.tables e below G (T.setTop (mkF m pc ls (.int x :: st))) := by
  subst hp; exact Go.via (fun _ k => Jvm.Free.XS.ineg q.1 q.2.1 rfl (hb q.2.2 hd) rfl k) K
theorem g_ior (q : Q0 p T m c below code) {x y : Int32} (hd : decode code pc = .ok (.ior, 1))  (hp : pc + 1 = pc1) (K : Go p.tables e below G (T.setTop (mkF m pc1 ls (.int (x ||| y) :: st)))) : Go p.tables e below G (T.setTop (mkF m pc ls (.int y :: .int x :: st))) := by
  subst hp; exact Go.via (fun _ k => Jvm.Free.XT.ior q.1 q.2.1 rfl (hb q.2.2 hd) rfl k) K
theorem g_ixor (q : Q0 p T m c below code) {x y : Int32} (hd : decode code pc = .ok (.ixor, 1))  (hp : pc + 1 = pc1) (K : Go p.tables e below G (T.setTop (mkF m pc1 ls (.int (x ^^^ y) :: st)))) : Go p.tables e below G (T.setTop (mkF m pc ls (.int y :: .int x :: st))) := by
  subst hp; exact Go.via (fun _ k => Jvm.Free.XT.ixor q.1 q.2.1 rfl (hb q.2.2 hd) rfl k) K
theorem g_ishl (q : Q0 p T m c below code) {x y : Int32} (hd : decode code pc = .ok (.ishl, 1))  (hp : pc + 1 = pc1) (K : Go p.tables e below G (T.setTop (mkF m pc1 ls (.int (x <<< (y &&& 31)) :: st)))) : Go p.tables e below G (T.setTop (mkF m pc ls (.int y :: .int x :: st))) := by
  subst hp; exact Go.via (fun _ k => Jvm.Free.XT.ishl q.1 q.2.1 rfl (hb q.2.2 hd) rfl k) K
theorem g_ishr (q : Q0 p T m c below code) {x y : Int32} (hd : decode code pc = .ok (.ishr, 1))  (hp : pc + 1 = pc1) (K : Go p.tables e below G (T.setTop (mkF m pc1 ls (.int (x >>> (y &&& 31)) :: st)))) : Go p.tables e below G (T.setTop (mkF m pc ls (.int y :: .int x :: st))) := by
  subst hp; exact Go.via (fun _ k => Jvm.Free.XT.ishr q.1 q.2.1 rfl (hb q.2.2 hd) rfl k) K
theorem g_iushr (q : Q0 p T m c below code) {x y : Int32} (hd : decode code pc = .ok (.iushr, 1))  (hp : pc + 1 = pc1) (K : Go p.tables e below G (T.setTop (mkF m pc1 ls (.int (Jvm.Free.XT.ushr x y) :: st)))) : Go p.tables e below G (T.setTop (mkF m pc ls (.int y :: .int x :: st))) := by
  subst hp; exact Go.via (fun _ k => Jvm.Free.XT.iushr q.1 q.2.1 rfl (hb q.2.2 hd) rfl k) K
theorem g_i2b (q : Q0 p T m c below code) {x : Int32} (hd : decode code pc = .ok (.i2b, 1))  (hp : pc + 1 = pc1) (K : Go p.tables e below G (T.setTop (mkF m pc1 ls (.int (x.toInt8.toInt32) :: st)))) : Go p.tables e below G (T.setTop (mkF m pc ls (.int x :: st))) := by
  subst hp; exact Go.via (fun _ k => Jvm.Free.XT.i2b q.1 q.2.1 rfl (hb q.2.2 hd) rfl k) K
theorem g_i2c (q : Q0 p T m c below code) {x : Int32} (hd : decode code pc = .ok (.i2c, 1))  (hp : pc + 1 = pc1) (K : Go p.tables e below G (T.setTop (mkF m pc1 ls (.int (x.toUInt32.toUInt16.toUInt32.toInt32) :: st)))) : Go p.tables e below G (T.setTop (mkF m pc ls (.int x :: st))) := by
  subst hp; exact Go.via (fun _ k => Jvm.Free.XT.i2c q.1 q.2.1 rfl (hb q.2.2 hd) rfl k) K
theorem g_i2s (q : Q0 p T m c below code) {x : Int32} (hd : decode code pc = .ok (.i2s, 1))  (hp : pc + 1 = pc1) (K : Go p.tables e below G (T.setTop (mkF m pc1 ls (.int (x.toInt16.toInt32) :: st)))) : Go p.tables e below G (T.setTop (mkF m pc ls (.int x :: st))) := by
  subst hp; exact Go.via (fun _ k => Jvm.Free.XT.i2s q.1 q.2.1 rfl (hb q.2.2 hd) rfl k) K
theorem g_i2l (q : Q0 p T m c below code) {x : Int32} (hd : decode code pc = .ok (.i2l, 1))  (hp : pc + 1 = pc1) (K : Go p.tables e below G (T.setTop (mkF m pc1 ls (.long x.toInt64 :: st)))) : Go p.tables e below G (T.setTop (mkF m pc ls (.int x :: st))) := by
  subst hp; exact Go.via (fun _ k => Jvm.Free.XT.i2l q.1 q.2.1 rfl (hb q.2.2 hd) rfl k) K
theorem g_l2i (q : Q0 p T m c below code) {x : Int64} (hd : decode code pc = .ok (.l2i, 1))  (hp : pc + 1 = pc1) (K : Go p.tables e below G (T.setTop (mkF m pc1 ls (.int x.toInt32 :: st)))) : Go p.tables e below G (T.setTop (mkF m pc ls (.long x :: st))) := by
  subst hp; exact Go.via (fun _ k => Jvm.Free.XT.l2i q.1 q.2.1 rfl (hb q.2.2 hd) rfl k) K
theorem g_ladd (q : Q0 p T m c below code) {x y : Int64} (hd : decode code pc = .ok (.ladd, 1))  (hp : pc + 1 = pc1) (K : Go p.tables e below G (T.setTop (mkF m pc1 ls (.long (x + y) :: st)))) : Go p.tables e below G (T.setTop (mkF m pc ls (.long y :: .long x :: st))) := by
  subst hp; exact Go.via (fun _ k => Jvm.Free.XT.ladd q.1 q.2.1 rfl (hb q.2.2 hd) rfl k) K
theorem g_lsub (q : Q0 p T m c below code) {x y : Int64} (hd : decode code pc = .ok (.lsub, 1))  (hp : pc + 1 = pc1) (K : Go p.tables e below G (T.setTop (mkF m pc1 ls (.long (x - y) :: st)))) : Go p.tables e below G (T.setTop (mkF m pc ls (.long y :: .long x :: st))) := by
  subst hp; exact Go.via (fun _ k => Jvm.Free.XT.lsub q.1 q.2.1 rfl (hb q.2.2 hd) rfl k) K
theorem g_lmul (q : Q0 p T m c below code) {x y : Int64} (hd : decode code pc = .ok (.lmul, 1))  (hp : pc + 1 = pc1) (K : Go p.tables e below G (T.setTop (mkF m pc1 ls (.long (x * y) :: st)))) : Go p.tables e below G (T.setTop (mkF m pc ls (.long y :: .long x :: st))) := by
  subst hp; exact Go.via (fun _ k => Jvm.Free.XT.lmul q.1 q.2.1 rfl (hb q.2.2 hd) rfl k) K
theorem g_land (q : Q0 p T m c below code) {x y : Int64} (hd : decode code pc = .ok (.land, 1))  (hp : pc + 1 = pc1) (K : Go p.tables e below G (T.setTop (mkF m pc1 ls (.long (x &&& y) :: st)))) : Go p.tables e below G (T.setTop (mkF m pc ls (.long y :: .long x :: st))) := by
  subst hp; exact Go.via (fun _ k => Jvm.Free.XT.land q.1 q.2.1 rfl (hb q.2.2 hd) rfl k) K
theorem g_lor (q : Q0 p T m c below code) {x y : Int64} (hd : decode code pc = .ok (.lor, 1))  (hp : pc + 1 = pc1) (K : Go p.tables e below G (T.setTop (mkF m pc1 ls (.long (x ||| y) :: st)))) : Go p.tables e below G (T.setTop (mkF m pc ls (.long y :: .long x :: st))) := by
  subst hp; exact Go.via (fun _ k => Jvm.Free.XT.lor q.1 q.2.1 rfl (hb q.2.2 hd) rfl k) K
theorem g_lshl (q : Q0 p T m c below code) {x : Int64} {y : Int32} (hd : decode code pc = .ok (.lshl, 1))  (hp : pc + 1 = pc1) (K : Go p.tables e below G (T.setTop (mkF m pc1 ls (.long (x <<< (y.toInt64 &&& 63)) :: st)))) : Go p.tables e below G (T.setTop (mkF m pc ls (.int y :: .long x :: st))) := by
  subst hp; exact Go.via (fun _ k => Jvm.Free.XT.lshl q.1 q.2.1 rfl (hb q.2.2 hd) rfl k) K
theorem g_lshr (q : Q0 p T m c below code) {x : Int64} {y : Int32} (hd : decode code pc = .ok (.lshr, 1))  (hp : pc + 1 = pc1) (K : Go p.tables e below G (T.setTop (mkF m pc1 ls (.long (x >>> (y.toInt64 &&& 63)) :: st)))) : Go p.tables e below G (T.setTop (mkF m pc ls (.int y :: .long x :: st))) := by
  subst hp; exact Go.via (fun _ k => Jvm.Free.XT.lshr q.1 q.2.1 rfl (hb q.2.2 hd) rfl k) K
theorem g_lushr (q : Q0 p T m c below code) {x : Int64} {y : Int32} (hd : decode code pc = .ok (.lushr, 1))  (hp : pc + 1 = pc1) (K : Go p.tables e below G (T.setTop (mkF m pc1 ls (.long (Jvm.Free.XT.ushrL x y) :: st)))) : Go p.tables e below G (T.setTop (mkF m pc ls (.int y :: .long x :: st))) := by
  subst hp; exact Go.via (fun _ k => Jvm.Free.XT.lushr q.1 q.2.1 rfl (hb q.2.2 hd) rfl k) K
theorem g_lrem (q : Q0 p T m c below code) {x y : Int64} (hd : decode code pc = .ok (.lrem, 1)) (hy : y ≠ 0) (hp : pc + 1 = pc1) (K : Go p.tables e below G (T.setTop (mkF m pc1 ls (.long (x - (x / y) * y) :: st)))) : Go p.tables e below G (T.setTop (mkF m pc ls (.long y :: .long x :: st))) := by
  subst hp; exact Go.via (fun _ k => Jvm.Free.XT.lrem q.1 q.2.1 rfl (hb q.2.2 hd) rfl hy k) K
theorem g_lneg (q : Q0 p T m c below code) {x : Int64} (hd : decode code pc = .ok (.lneg, 1))  (hp : pc + 1 = pc1) (K : Go p.tables e below G (T.setTop (mkF m pc1 ls (.long (-x) :: st)))) : Go p.tables e below G (T.setTop (mkF m pc ls (.long x :: st))) := by
  subst hp; exact Go.via (fun _ k => Jvm.Free.XT.lneg q.1 q.2.1 rfl (hb q.2.2 hd) rfl k) K
theorem g_lcmp (q : Q0 p T m c below code) {x y : Int64} (hd : decode code pc = .ok (.lcmp, 1))  (hp : pc + 1 = pc1) (K : Go p.tables e below G (T.setTop (mkF m pc1 ls (.int (Jvm.Free.XT.cmpL x y) :: st)))) : Go p.tables e below G (T.setTop (mkF m pc ls (.long y :: .long x :: st))) := by
  subst hp; exact Go.via (fun _ k => Jvm.Free.XT.lcmp q.1 q.2.1 rfl (hb q.2.2 hd) rfl k) K
theorem g_lconst (q : Q0 p T m c below code) {i : Fin 2} {v : Int64} (hd : decode code pc = .ok (.lconst i, 1)) (hv : Int64.ofNat i.val = v) (hp : pc + 1 = pc1) (K : Go p.tables e below G (T.setTop (mkF m pc1 ls (.long v :: st)))) : Go p.tables e below G (T.setTop (mkF m pc ls st)) := by
  subst hp; exact Go.via (fun _ k => Jvm.Free.XT.lconst q.1 q.2.1 rfl (hb q.2.2 hd) (hv ▸ k)) K
theorem g_iinc (q : Q0 p T m c below code) {k : Nat} {i : Int} {v : Int32} (hd : decode code pc = .ok (.iinc k i, 3)) (hl : ls[k]? = some (.val (.int v))) (hl2 : storeLocals ls k (.int (v + Int32.ofInt i)) = some ls2) (hp : pc + 3 = pc1) (K : Go p.tables e below G (T.setTop (mkF m pc1 ls2 st))) : Go p.tables e below G (T.setTop (mkF m pc ls st)) := by
  subst hp; exact Go.via (fun _ k => Jvm.Free.XS.iinc q.1 q.2.1 rfl (hb q.2.2 hd) hl hl2 k) K
theorem g_dup (q : Q0 p T m c below code) {x : Value} (hd : decode code pc = .ok (.dup, 1)) (hc : x.category = 1) (hp : pc + 1 = pc1) (K : Go p.tables e below G (T.setTop (mkF m pc1 ls (x :: x :: st)))) : Go p.tables e below G (T.setTop (mkF m pc ls (x :: st))) := by
  subst hp; exact Go.via (fun _ k => Jvm.Free.XS.dup q.1 q.2.1 rfl (hb q.2.2 hd) rfl hc k) K
theorem g_pop (q : Q0 p T m c below code) {x : Value} (hd : decode code pc = .ok (.pop, 1)) (hc : x.category = 1) (hp : pc + 1 = pc1) (K : Go p.tables e below G (T.setTop (mkF m pc1 ls st))) : Go p.tables e below G (T.setTop (mkF m pc ls (x :: st))) := by
  subst hp; exact Go.via (fun _ k => Jvm.Free.XT.pop q.1 q.2.1 rfl (hb q.2.2 hd) rfl hc k) K
theorem g_dup2 (q : Q0 p T m c below code) {x y : Value} (hd : decode code pc = .ok (.dup2, 1)) (hc : x.category = 1) (hc2 : y.category = 1) (hp : pc + 1 = pc1) (K : Go p.tables e below G (T.setTop (mkF m pc1 ls (x :: y :: x :: y :: st)))) : Go p.tables e below G (T.setTop (mkF m pc ls (x :: y :: st))) := by
  subst hp; exact Go.via (fun _ k => Jvm.Free.XT.dup2 q.1 q.2.1 rfl (hb q.2.2 hd) rfl hc hc2 k) K
theorem g_dloadN (q : Q0 p T m c below code) {k : Fin 4} {v : UInt64} (hd : decode code pc = .ok (.dload_n k, 1)) (hl : ls[k.val]? = some (.val (.double v))) (hp : pc + 1 = pc1) (K : Go p.tables e below G (T.setTop (mkF m pc1 ls (.double v :: st)))) : Go p.tables e below G (T.setTop (mkF m pc ls st)) := by
  subst hp; exact Go.via (fun _ k => Jvm.Free.XS.dloadN q.1 q.2.1 rfl (hb q.2.2 hd) hl k) K
theorem g_dstoreN (q : Q0 p T m c below code) {k : Fin 4} {v : UInt64} (hd : decode code pc = .ok (.dstore_n k, 1)) (hl : storeLocals ls k.val (.double v) = some ls2) (hp : pc + 1 = pc1) (K : Go p.tables e below G (T.setTop (mkF m pc1 ls2 st))) : Go p.tables e below G (T.setTop (mkF m pc ls (.double v :: st))) := by
  subst hp; exact Go.via (fun _ k => Jvm.Free.XS.dstoreN q.1 q.2.1 rfl (hb q.2.2 hd) rfl hl k) K
theorem g_dload (q : Q0 p T m c below code) {k : Nat} {v : UInt64} (hd : decode code pc = .ok (.dload k, 2)) (hl : ls[k]? = some (.val (.double v))) (hp : pc + 2 = pc1) (K : Go p.tables e below G (T.setTop (mkF m pc1 ls (.double v :: st)))) : Go p.tables e below G (T.setTop (mkF m pc ls st)) := by
  subst hp; exact Go.via (fun _ k => Jvm.Free.XS.dload q.1 q.2.1 rfl (hb q.2.2 hd) hl k) K
theorem g_dstore (q : Q0 p T m c below code) {k : Nat} {v : UInt64} (hd : decode code pc = .ok (.dstore k, 2)) (hl : storeLocals ls k (.double v) = some ls2) (hp : pc + 2 = pc1) (K : Go p.tables e below G (T.setTop (mkF m pc1 ls2 st))) : Go p.tables e below G (T.setTop (mkF m pc ls (.double v :: st))) := by
  subst hp; exact Go.via (fun _ k => Jvm.Free.XS.dstore q.1 q.2.1 rfl (hb q.2.2 hd) rfl hl k) K
theorem g_dconst0 (q : Q0 p T m c below code)  (hd : decode code pc = .ok (.dconst 0, 1))  (hp : pc + 1 = pc1) (K : Go p.tables e below G (T.setTop (mkF m pc1 ls (.double 0 :: st)))) : Go p.tables e below G (T.setTop (mkF m pc ls st)) := by
  subst hp; exact Go.via (fun _ k => Jvm.Free.XS.dconst0 q.1 q.2.1 rfl (hb q.2.2 hd) (by decide +kernel) k) K
theorem g_i2d (q : Q0 p T m c below code) {x : Int32} (hd : decode code pc = .ok (.i2d, 1))  (hp : pc + 1 = pc1) (K : Go p.tables e below G (T.setTop (mkF m pc1 ls (.double (FP.i2d x) :: st)))) : Go p.tables e below G (T.setTop (mkF m pc ls (.int x :: st))) := by
  subst hp; exact Go.via (fun _ k => Jvm.Free.XS.i2dS q.1 q.2.1 rfl (hb q.2.2 hd) rfl rfl k) K
theorem g_l2d (q : Q0 p T m c below code) {x : Int64} (hd : decode code pc = .ok (.l2d, 1))  (hp : pc + 1 = pc1) (K : Go p.tables e below G (T.setTop (mkF m pc1 ls (.double (FP.l2d x) :: st)))) : Go p.tables e below G (T.setTop (mkF m pc ls (.long x :: st))) := by
  subst hp; exact Go.via (fun _ k => Jvm.Free.XS.l2dS q.1 q.2.1 rfl (hb q.2.2 hd) rfl rfl k) K
theorem g_dcmp (q : Q0 p T m c below code) {o : CmpOp} {x y : UInt64} (hd : decode code pc = .ok (.dcmp o, 1))  (hp : pc + 1 = pc1) (K : Go p.tables e below G (T.setTop (mkF m pc1 ls (.int (cmpValue (FP.dcmp x y) o) :: st)))) : Go p.tables e below G (T.setTop (mkF m pc ls (.double y :: .double x :: st))) := by
  subst hp; exact Go.via (fun _ k => Jvm.Free.XS.dcmpS q.1 q.2.1 rfl (hb q.2.2 hd) rfl rfl k) K
theorem g_dadd (q : Q0 p T m c below code) {x y : UInt64} (hd : decode code pc = .ok (.dadd, 1)) (hn : Jvm.Free.Fl.NoNaN64 (FP.dadd x y)) (hp : pc + 1 = pc1) (K : Go p.tables e below G (T.setTop (mkF m pc1 ls (.double (FP.dadd x y) :: st)))) : Go p.tables e below G (T.setTop (mkF m pc ls (.double y :: .double x :: st))) := by
  subst hp; exact Go.via (fun _ k => Jvm.Free.XS.daddS q.1 q.2.1 rfl (hb q.2.2 hd) rfl hn rfl k) K
theorem g_dmul (q : Q0 p T m c below code) {x y : UInt64} (hd : decode code pc = .ok (.dmul, 1)) (hn : Jvm.Free.Fl.NoNaN64 (FP.dmul x y)) (hp : pc + 1 = pc1) (K : Go p.tables e below G (T.setTop (mkF m pc1 ls (.double (FP.dmul x y) :: st)))) : Go p.tables e below G (T.setTop (mkF m pc ls (.double y :: .double x :: st))) := by
  subst hp; exact Go.via (fun _ k => Jvm.Free.XS.dmulS q.1 q.2.1 rfl (hb q.2.2 hd) rfl hn rfl k) K
theorem g_floadN (q : Q0 p T m c below code) {k : Fin 4} {v : UInt32} (hd : decode code pc = .ok (.fload_n k, 1)) (hl : ls[k.val]? = some (.val (.float v))) (hp : pc + 1 = pc1) (K : Go p.tables e below G (T.setTop (mkF m pc1 ls (.float v :: st)))) : Go p.tables e below G (T.setTop (mkF m pc ls st)) := by
  subst hp; exact Go.via (fun _ k => Jvm.Free.XS.floadN q.1 q.2.1 rfl (hb q.2.2 hd) hl k) K
theorem g_fstoreN (q : Q0 p T m c below code) {k : Fin 4} {v : UInt32} (hd : decode code pc = .ok (.fstore_n k, 1)) (hl : storeLocals ls k.val (.float v) = some ls2) (hp : pc + 1 = pc1) (K : Go p.tables e below G (T.setTop (mkF m pc1 ls2 st))) : Go p.tables e below G (T.setTop (mkF m pc ls (.float v :: st))) := by
  subst hp; exact Go.via (fun _ k => Jvm.Free.XS.fstoreN q.1 q.2.1 rfl (hb q.2.2 hd) rfl hl k) K
theorem g_fload (q : Q0 p T m c below code) {k : Nat} {v : UInt32} (hd : decode code pc = .ok (.fload k, 2)) (hl : ls[k]? = some (.val (.float v))) (hp : pc + 2 = pc1) (K : Go p.tables e below G (T.setTop (mkF m pc1 ls (.float v :: st)))) : Go p.tables e below G (T.setTop (mkF m pc ls st)) := by
  subst hp; exact Go.via (fun _ k => Jvm.Free.XS.fload q.1 q.2.1 rfl (hb q.2.2 hd) hl k) K
theorem g_fstore (q : Q0 p T m c below code) {k : Nat} {v : UInt32} (hd : decode code pc = .ok (.fstore k, 2)) (hl : storeLocals ls k (.float v) = some ls2) (hp : pc + 2 = pc1) (K : Go p.tables e below G (T.setTop (mkF m pc1 ls2 st))) : Go p.tables e below G (T.setTop (mkF m pc ls (.float v :: st))) := by
  subst hp; exact Go.via (fun _ k => Jvm.Free.XS.fstore q.1 q.2.1 rfl (hb q.2.2 hd) rfl hl k) K
theorem g_i2f (q : Q0 p T m c below code) {x : Int32} (hd : decode code pc = .ok (.i2f, 1))  (hp : pc + 1 = pc1) (K : Go p.tables e below G (T.setTop (mkF m pc1 ls (.float (FP.i2f x) :: st)))) : Go p.tables e below G (T.setTop (mkF m pc ls (.int x :: st))) := by
  subst hp; exact Go.via (fun _ k => Jvm.Free.XS.i2fS q.1 q.2.1 rfl (hb q.2.2 hd) rfl rfl k) K
theorem g_f2d (q : Q0 p T m c below code) {x : UInt32} (hd : decode code pc = .ok (.f2d, 1)) (hn : Jvm.Free.Fl.NoNaN64 (FP.f2d x)) (hp : pc + 1 = pc1) (K : Go p.tables e below G (T.setTop (mkF m pc1 ls (.double (FP.f2d x) :: st)))) : Go p.tables e below G (T.setTop (mkF m pc ls (.float x :: st))) := by
  subst hp; exact Go.via (fun _ k => Jvm.Free.XS.f2dS q.1 q.2.1 rfl (hb q.2.2 hd) rfl hn rfl k) K
theorem g_dconst1 (q : Q0 p T m c below code)  (hd : decode code pc = .ok (.dconst 1, 1))  (hp : pc + 1 = pc1) (K : Go p.tables e below G (T.setTop (mkF m pc1 ls (.double 4607182418800017408 :: st)))) : Go p.tables e below G (T.setTop (mkF m pc ls st)) := by
  subst hp; exact Go.via (fun _ k => Jvm.Free.XS.dconst1 q.1 q.2.1 rfl (hb q.2.2 hd) (by decide +kernel) k) K
theorem g_dneg (q : Q0 p T m c below code) {x : UInt64} (hd : decode code pc = .ok (.dneg, 1))  (hp : pc + 1 = pc1) (K : Go p.tables e below G (T.setTop (mkF m pc1 ls (.double (FP.dneg x) :: st)))) : Go p.tables e below G (T.setTop (mkF m pc ls (.double x :: st))) := by
  subst hp; exact Go.via (fun _ k => Jvm.Free.XS.dnegS q.1 q.2.1 rfl (hb q.2.2 hd) rfl rfl k) K
theorem g_dsub (q : Q0 p T m c below code) {x y : UInt64} (hd : decode code pc = .ok (.dsub, 1)) (hn : Jvm.Free.Fl.NoNaN64 (FP.dsub x y)) (hp : pc + 1 = pc1) (K : Go p.tables e below G (T.setTop (mkF m pc1 ls (.double (FP.dsub x y) :: st)))) : Go p.tables e below G (T.setTop (mkF m pc ls (.double y :: .double x :: st))) := by
  subst hp; exact Go.via (fun _ k => Jvm.Free.XS.dsubS q.1 q.2.1 rfl (hb q.2.2 hd) rfl hn rfl k) K
theorem g_ddiv (q : Q0 p T m c below code) {x y : UInt64} (hd : decode code pc = .ok (.ddiv, 1)) (hn : Jvm.Free.Fl.NoNaN64 (FP.ddiv x y)) (hp : pc + 1 = pc1) (K : Go p.tables e below G (T.setTop (mkF m pc1 ls (.double (FP.ddiv x y) :: st)))) : Go p.tables e below G (T.setTop (mkF m pc ls (.double y :: .double x :: st))) := by
  subst hp; exact Go.via (fun _ k => Jvm.Free.XS.ddivS q.1 q.2.1 rfl (hb q.2.2 hd) rfl hn rfl k) K
theorem g_goto (q : Q0 p T m c below code) {o : Int} (hd : decode code pc = .ok (.goto o, 3)) (ho : 0 ≤ (pc : Int) + o) (hp : ((pc : Int) + o).toNat = pc1) (K : Go p.tables e below G (T.setTop (mkF m pc1 ls st))) : Go p.tables e below G (T.setTop (mkF m pc ls st)) :=
  Go.via (fun _ k => Jvm.Free.XS.goto q.1 q.2.1 rfl rfl (hb q.2.2 hd) ho hp k) K
theorem g_ifY (q : Q0 p T m c below code) {cd : ClassFile.Cond} {x : Int32} {o : Int} (hd : decode code pc = .ok (.ifCond cd o, 3)) (ho : 0 ≤ (pc : Int) + o) (hp : ((pc : Int) + o).toNat = pc1) (h : cv cd x 0) (K : Go p.tables e below G (T.setTop (mkF m pc1 ls st))) : Go p.tables e below G (T.setTop (mkF m pc ls (.int x :: st))) :=
  Go.via (fun _ k => Jvm.Free.XS.ifYes q.1 q.2.1 rfl rfl (hb q.2.2 hd) rfl (by rw [if0]; exact cvY h) ho hp k) K
theorem g_ifN (q : Q0 p T m c below code) {cd : ClassFile.Cond} {x : Int32} {o : Int} (hd : decode code pc = .ok (.ifCond cd o, 3)) (hp : pc + 3 = pc2) (h : ¬ cv cd x 0) (K : Go p.tables e below G (T.setTop (mkF m pc2 ls st))) : Go p.tables e below G (T.setTop (mkF m pc ls (.int x :: st))) := by
  subst hp; exact Go.via (fun _ k => Jvm.Free.XS.ifNo q.1 q.2.1 rfl (hb q.2.2 hd) rfl (by rw [if0]; exact cvN h) k) K
theorem g_if (q : Q0 p T m c below code) {cd : ClassFile.Cond} {x : Int32} {o : Int} (hd : decode code pc = .ok (.ifCond cd o, 3)) (ho : 0 ≤ (pc : Int) + o) (hp : ((pc : Int) + o).toNat = pc1) (hp2 : pc + 3 = pc2) (K : cv cd x 0 → Go p.tables e below G (T.setTop (mkF m pc1 ls st))) (K2 : ¬ cv cd x 0 → Go p.tables e below G (T.setTop (mkF m pc2 ls st))) : Go p.tables e below G (T.setTop (mkF m pc ls (.int x :: st))) :=
  (cvD cd x 0).elim (fun h => g_ifY q hd ho hp h (K h)) (fun h => g_ifN q hd hp2 h (K2 h))
theorem g_cmpY (q : Q0 p T m c below code) {cd : ClassFile.Cond} {x y : Int32} {o : Int} (hd : decode code pc = .ok (.if_icmp cd o, 3)) (ho : 0 ≤ (pc : Int) + o) (hp : ((pc : Int) + o).toNat = pc1) (h : cv cd x y) (K : Go p.tables e below G (T.setTop (mkF m pc1 ls st))) : Go p.tables e below G (T.setTop (mkF m pc ls (.int y :: .int x :: st))) :=
  Go.via (fun _ k => Jvm.Free.XS.icmpYes q.1 q.2.1 rfl rfl (hb q.2.2 hd) rfl (cvY h) ho hp k) K
theorem g_cmpN (q : Q0 p T m c below code) {cd : ClassFile.Cond} {x y : Int32} {o : Int} (hd : decode code pc = .ok (.if_icmp cd o, 3)) (hp : pc + 3 = pc2) (h : ¬ cv cd x y) (K : Go p.tables e below G (T.setTop (mkF m pc2 ls st))) : Go p.tables e below G (T.setTop (mkF m pc ls (.int y :: .int x :: st))) := by
  subst hp; exact Go.via (fun _ k => Jvm.Free.XS.icmpNo q.1 q.2.1 rfl (hb q.2.2 hd) rfl (cvN h) k) K
theorem g_cmp (q : Q0 p T m c below code) {cd : ClassFile.Cond} {x y : Int32} {o : Int} (hd : decode code pc = .ok (.if_icmp cd o, 3)) (ho : 0 ≤ (pc : Int) + o) (hp : ((pc : Int) + o).toNat = pc1) (hp2 : pc + 3 = pc2) (K : cv cd x y → Go p.tables e below G (T.setTop (mkF m pc1 ls st))) (K2 : ¬ cv cd x y → Go p.tables e below G (T.setTop (mkF m pc2 ls st))) : Go p.tables e below G (T.setTop (mkF m pc ls (.int y :: .int x :: st))) :=
  (cvD cd x y).elim (fun h => g_cmpY q hd ho hp h (K h)) (fun h => g_cmpN q hd hp2 h (K2 h))
theorem g_nullY (q : Q0 p T m c below code) {o : Int} (hd : decode code pc = .ok (.ifnull o, 3)) (ho : 0 ≤ (pc : Int) + o) (hp : ((pc : Int) + o).toNat = pc1) (K : Go p.tables e below G (T.setTop (mkF m pc1 ls st))) : Go p.tables e below G (T.setTop (mkF m pc ls (.null :: st))) :=
  Go.via (fun _ k => Jvm.Free.XS.ifnullYes q.1 q.2.1 rfl rfl (hb q.2.2 hd) rfl ho hp k) K
theorem g_nullN (q : Q0 p T m c below code) {o : Int} {b : Addr} (hd : decode code pc = .ok (.ifnull o, 3)) (hp : pc + 3 = pc2) (K : Go p.tables e below G (T.setTop (mkF m pc2 ls st))) : Go p.tables e below G (T.setTop (mkF m pc ls (.ref b :: st))) := by
  subst hp; exact Go.via (fun _ k => Jvm.Free.XS.ifnullNo q.1 q.2.1 rfl (hb q.2.2 hd) rfl k) K
theorem g_nonY (q : Q0 p T m c below code) {b : Addr} {o : Int} (hd : decode code pc = .ok (.ifnonnull o, 3)) (ho : 0 ≤ (pc : Int) + o) (hp : ((pc : Int) + o).toNat = pc1) (K : Go p.tables e below G (T.setTop (mkF m pc1 ls st))) : Go p.tables e below G (T.setTop (mkF m pc ls (.ref b :: st))) :=
  Go.via (fun _ k => Jvm.Free.XT.ifnonnullYes q.1 q.2.1 rfl rfl (hb q.2.2 hd) rfl ho hp k) K
theorem g_nonN (q : Q0 p T m c below code) {o : Int} (hd : decode code pc = .ok (.ifnonnull o, 3)) (hp : pc + 3 = pc2) (K : Go p.tables e below G (T.setTop (mkF m pc2 ls st))) : Go p.tables e below G (T.setTop (mkF m pc ls (.null :: st))) := by
  subst hp; exact Go.via (fun _ k => Jvm.Free.XT.ifnonnullNo q.1 q.2.1 rfl (hb q.2.2 hd) rfl k) K
theorem g_acmpY (q : Q0 p T m c below code) {cd : ClassFile.ACond} {x y : Value} {o : Int} (hd : decode code pc = .ok (.if_acmp cd o, 3)) (ho : 0 ≤ (pc : Int) + o) (hp : ((pc : Int) + o).toNat = pc1) (hx : x.isRef = true) (hy : y.isRef = true) (h : Jvm.Free.XT.acmp cd x y = true) (K : Go p.tables e below G (T.setTop (mkF m pc1 ls st))) : Go p.tables e below G (T.setTop (mkF m pc ls (y :: x :: st))) :=
  Go.via (fun _ k => Jvm.Free.XT.acmpYes q.1 q.2.1 rfl rfl (hb q.2.2 hd) rfl hx hy h ho hp k) K
theorem g_acmpN (q : Q0 p T m c below code) {cd : ClassFile.ACond} {x y : Value} {o : Int} (hd : decode code pc = .ok (.if_acmp cd o, 3)) (hp : pc + 3 = pc2) (hx : x.isRef = true) (hy : y.isRef = true) (h : Jvm.Free.XT.acmp cd x y = false) (K : Go p.tables e below G (T.setTop (mkF m pc2 ls st))) : Go p.tables e below G (T.setTop (mkF m pc ls (y :: x :: st))) := by
  subst hp; exact Go.via (fun _ k => Jvm.Free.XT.acmpNo q.1 q.2.1 rfl (hb q.2.2 hd) rfl hx hy h k) K
theorem g_tsw (q : Q0 p T m c below code) {dflt low high : Int} {offs : Array Int} {len : Nat} {o : Int} {i : Int32} (hd : decode code pc = .ok (.tableswitch dflt low high offs, len)) (hin : ¬ (i.toInt < low ∨ i.toInt > high)) (hoff : offs[(i.toInt - low).toNat]? = some o) (ho : 0 ≤ (pc : Int) + o) (hp : ((pc : Int) + o).toNat = pc1) (K : Go p.tables e below G (T.setTop (mkF m pc1 ls st))) : Go p.tables e below G (T.setTop (mkF m pc ls (.int i :: st))) :=
  Go.via (fun _ k => Jvm.Free.XS.tswIn q.1 q.2.1 rfl rfl (hb q.2.2 hd) rfl hin hoff ho hp k) K
end Plain
/-- every place lies in a cell of wl, or in one made since -/
def Frw (wl : List Addr) (n : Nat) (L : List Loc) : Prop := ∀ y ∈ L, y.base ∈ wl ∨ n ≤ y.base
theorem Frw.nil {wl : List Addr} {n : Nat} : Frw wl n [] := fun _ q => nomatch q
theorem Frw.app {wl : List Addr} {n : Nat} {L L' : List Loc} (A : Frw wl n L) (B : Frw wl n L') : Frw wl n (L ++ L') := fun y q => (List.mem_append.mp q).elim (A y) (B y)
theorem Frw.snoc {wl : List Addr} {n : Nat} {L : List Loc} {a : Addr} {sl : Nat} (A : Frw wl n L) (q : a ∈ wl ∨ n ≤ a) : Frw wl n (L ++ [⟨a, sl⟩]) := A.app fun y hy => by cases List.mem_singleton.mp hy; exact q
theorem Frw.up {wl wl' : List Addr} {n n' : Nat} {L : List Loc} (A : Frw wl n L) (hn : n' ≤ n) (q : ∀ x ∈ wl, x ∈ wl' ∨ n' ≤ x) : Frw wl' n' L := fun y hy => (A y hy).elim (q _) (fun z => Or.inr (Nat.le_trans hn z))
theorem Frw.of_fr {wl : List Addr} {n n' : Nat} {L : List Loc} (A : Fr n L) (hn : n' ≤ n) : Frw wl n' L := fun y hy => Or.inr (Nat.le_trans hn (A y hy))
/-- where a walk stands: s its true start, vm0 the tables of its last interning step, h the heap -/
def Pos (p : Program) (l : Launch) (e : Env) (R : Room) (s : State) (m : MethodId) (args : Array Value) (below : List Frame) (meth : Method) (c : Code) (code : ByteArray) (Z : State) (EL : List (String × Nat)) (wl : List Addr) (hS : Heap) (own : String) (vm0 : Vm) (T : State) (locs : List Loc) (cells slots : Nat) (h : Heap) : Prop :=
  Stand p l e R (s.setVm vm0) m args below meth c T locs cells slots ∧ T.heap = h ∧ (∃ k0, s.Since vm0 k0 ∧ k0 ≤ h.size) ∧ Z.Warmed39 vm0 ∧ vm0.findClass own = some m.cls ∧ Frw wl hS.size locs ∧ s.heap = hS ∧ CHr Z EL s.vm hS vm0 h ∧ p.tables.exec = Jvm.exec ∧ c.code = code
section Heapy
variable {p : Program} {l : Launch} {e : Env} {R : Room} {s : State} {m : MethodId} {args : Array Value} {below : List Frame} {meth : Method} {c : Code} {code : ByteArray} {Z : State} {EL : List (String × Nat)} {wl : List Addr} {hS : Heap} {own : String} {vm0 : Vm} {T : State} {locs : List Loc} {cells slots : Nat} {h : Heap} {a0 : Array Value} {G : Outcome → State → Prop} {pc pc1 pc2 : Nat} {ls ls2 : Array Slot} {st : List Value}
theorem Pos.q (P : Pos p l e R s m args below meth c code Z EL wl hS own vm0 T locs cells slots h) : Q0 p T m c below code := ⟨P.1.here, P.2.2.2.2.2.2.2.2⟩
theorem Pos.hz (P : Pos p l e R s m args below meth c code Z EL wl hS own vm0 T locs cells slots h) : Z.Warmed39 (s.setVm vm0).vm := P.2.2.2.1
theorem Pos.al (P : Pos p l e R s m args below meth c code Z EL wl hS own vm0 T locs cells slots h) : Z.vm.Alike vm0 := P.2.2.2.1.alike
theorem Pos.heap (P : Pos p l e R s m args below meth c code Z EL wl hS own vm0 T locs cells slots h) : T.heap = h := P.2.1
theorem Pos.fr (P : Pos p l e R s m args below meth c code Z EL wl hS own vm0 T locs cells slots h) : Frw wl hS.size locs := P.2.2.2.2.2.1
theorem Pos.sz (P : Pos p l e R s m args below meth c code Z EL wl hS own vm0 T locs cells slots h) : hS.size ≤ h.size := P.2.2.2.2.2.2.2.1.2.1
theorem Pos.chv (P : Pos p l e R s m args below meth c code Z EL wl hS own vm0 T locs cells slots h) : CHv Z EL vm0 h := P.2.2.2.2.2.2.2.1.1
theorem Pos.chr (P : Pos p l e R s m args below meth c code Z EL wl hS own vm0 T locs cells slots h) : CHr Z EL s.vm hS vm0 h := P.2.2.2.2.2.2.2.1
theorem Pos.mono (P : Pos p l e R s m args below meth c code Z EL wl hS own vm0 T locs cells slots h) {cells' slots' : Nat} (hc : cells ≤ cells') (hs : slots ≤ slots') : Pos p l e R s m args below meth c code Z EL wl hS own vm0 T locs cells' slots' h := ⟨P.1.mono hc hs, P.2⟩
theorem Pos.keep (P : Pos p l e R s m args below meth c code Z EL wl hS own vm0 T locs cells slots h) : Keep hS h wl := by
  obtain ⟨X, rfl, -, -, -, N, rfl, -⟩ := P
  have hsame := X.same
  have key : ∀ (x : Addr) (c0 : Cell), s.heap[x]? = some c0 → x ∉ wl → T.heap[x]? = some c0 := fun x c0 q r => by
    obtain ⟨c', h1, h2, -, h4⟩ := hsame.2.2.2.2.2 x c0 q
    have hb := (Array.getElem?_eq_some_iff.mp q).1
    have hsl : c'.slots = c0.slots := Array.ext_getElem? fun i => h4 i fun hm => (N _ hm).elim r (fun z => absurd hb (Nat.not_lt.mpr z))
    have hcc : c' = c0 := by rw [h2, hsl]
    rw [← hcc]; exact h1
  exact ⟨hsame.2.1, key, fun x c0 q => by
    obtain ⟨c', h1, h2, h3, -⟩ := hsame.2.2.2.2.2 x c0 q
    exact ⟨c', h1, by rw [h2], by rw [h2], h3⟩⟩
theorem Pos.ext0 (P : Pos p l e R s m args below meth c code Z EL [] hS own vm0 T locs cells slots h) : Ext hS h := ⟨P.keep.1, fun a c q => P.keep.2.1 a c q nin0⟩
theorem Pos.extZ (P : Pos p l e R s m args below meth c code Z EL wl hS own vm0 T locs cells slots h) (EZ : Ext Z.heap hS) (q : ∀ x ∈ wl, Z.heap.size ≤ x) : Ext Z.heap h := ⟨Nat.le_trans EZ.1 P.keep.1, fun a c r => P.keep.2.1 a c (EZ.2 a c r) fun z => absurd (Array.getElem?_eq_some_iff.mp r).1 (Nat.not_lt.mpr (q a z))⟩
/-- a step that leaves heap and tables of interned texts as they are -/
theorem Pos.same (P : Pos p l e R s m args below meth c code Z EL wl hS own vm0 T locs cells slots h) {T' : State} (X' : Stand p l e R (s.setVm vm0) m args below meth c T' locs cells slots) (e' : T'.heap = h) : Pos p l e R s m args below meth c code Z EL wl hS own vm0 T' locs cells slots h := by
  obtain ⟨X, eT, hsi, hZ, hown, N, n1, C, hx, hby⟩ := P; exact ⟨X', e', hsi, hZ, hown, N, n1, C, hx, hby⟩
theorem Pos.grown (P : Pos p l e R s m args below meth c code Z EL wl hS own vm0 T locs cells slots h) {T' : State} {h' : Heap} {cells' slots' : Nat} (X' : Stand p l e R (s.setVm vm0) m args below meth c T' locs cells' slots') (e' : T'.heap = h') (E : Ext h h') : Pos p l e R s m args below meth c code Z EL wl hS own vm0 T' locs cells' slots' h' := by
  obtain ⟨X, eT, hsi, hZ, hown, N, n1, C, hx, hby⟩ := P; obtain ⟨k0, q1, q2⟩ := hsi; exact ⟨X', e', ⟨k0, q1, Nat.le_trans q2 E.1⟩, hZ, hown, N, n1, C.trans (CHr.ext E C.1), hx, hby⟩
theorem Pos.wrote (P : Pos p l e R s m args below meth c code Z EL wl hS own vm0 T locs cells slots h) {T' : State} {h' : Heap} {a : Addr} {sl : Nat} {v : Value} (X' : Stand p l e R (s.setVm vm0) m args below meth c T' (locs ++ [⟨a, sl⟩]) cells slots) (e' : T'.heap = h') (Wq : Wr h h' a sl v) (ga : a ∈ wl ∨ hS.size ≤ a) (S : Safe Z EL vm0 h a) : Pos p l e R s m args below meth c code Z EL wl hS own vm0 T' (locs ++ [⟨a, sl⟩]) cells slots h' := by
  obtain ⟨X, eT, hsi, hZ, hown, N, n1, C, hx, hby⟩ := P; obtain ⟨k0, q1, q2⟩ := hsi; have hs := Wq.size; exact ⟨X', e', ⟨k0, q1, by omega⟩, hZ, hown, N.snoc ga, n1, C.trans (CHr.wr Wq S C.1), hx, hby⟩
theorem Pos.came (P : Pos p l e R s m args below meth c code Z EL wl hS own vm0 T locs cells slots h) {T' : State} {L : List Loc} {cells' slots' : Nat} (X' : Stand p l e R (s.setVm vm0) m args below meth c T' (locs ++ L) cells' slots') (F : Frw wl hS.size L) (C' : CHr Z EL vm0 h vm0 T'.heap) : Pos p l e R s m args below meth c code Z EL wl hS own vm0 T' (locs ++ L) cells' slots' T'.heap := by
  obtain ⟨X, eT, hsi, hZ, hown, N, n1, C, hx, hby⟩ := P; obtain ⟨k0, q1, q2⟩ := hsi; have hs := C'.2.1; exact ⟨X', rfl, ⟨k0, q1, Nat.le_trans q2 hs⟩, hZ, hown, N.app F, n1, C.trans C', hx, hby⟩
theorem Pos.cameW (P : Pos p l e R s m args below meth c code Z EL wl hS own vm0 T locs cells slots h) {T' : State} {L : List Loc} {cells' slots' : Nat} (X' : Stand p l e R ((s.setVm vm0).setVm T'.vm) m args below meth c T' (locs ++ L) cells' slots') (h2 : (s.setVm vm0).Since T'.vm T'.heap.size) (g : h.size ≤ T'.heap.size) (F : Frw wl hS.size L) (C' : CHr Z EL vm0 h T'.vm T'.heap) : Pos p l e R s m args below meth c code Z EL wl hS own T'.vm T' (locs ++ L) cells' slots' T'.heap := by
  obtain ⟨X, eT, hsi, hZ, hown, N, n1, C, hx, hby⟩ := P; obtain ⟨k0, q1, q2⟩ := hsi
  obtain ⟨y1, y2, y3, y4⟩ := rebS q1 q2 X' h2 g hZ hown
  exact ⟨y1, rfl, ⟨_, y2, Nat.le_refl _⟩, y3, y4, N.app F, n1, C.trans C', hx, hby⟩
theorem Pos.getF (P : Pos p l e R s m args below meth c code Z EL wl hS own vm0 T locs cells slots h) {R0 O n d host : String} {index : Nat} {a : Addr} {v : Value} (w : (Cond.fieldLink own index R0 n d).before a0 Z = true ∨ (Cond.fieldLinkNest own index R0 n d host).before a0 Z = true) (via : Via Z R0 O n d) (F : Fld Z h a O n d v) (hd : decode code pc = .ok (.getfield index, 3)) (hp : pc + 3 = pc1) (K : ∀ (T' : State), Pos p l e R s m args below meth c code Z EL wl hS own vm0 T' locs cells slots h → Go p.tables e below G (T'.setTop (mkF m pc1 ls (v :: st)))) : Go p.tables e below G (T.setTop (mkF m pc ls (.ref a :: st))) := by
  subst hp
  obtain ⟨T', X', e', stp⟩ := RoadKit.getF P.1 P.q.2.1 P.hz P.2.2.2.2.1 w via P.heap F (g := mkF m pc ls (.ref a :: st)) rfl rfl (hb P.q.2.2 hd)
  exact Go.via stp (K T' (P.same X' e'))
theorem Pos.getS (P : Pos p l e R s m args below meth c code Z EL wl hS own vm0 T locs cells slots h) {R0 O n d : String} {index : Nat} {v : Value} (w : (Cond.fieldLink own index R0 n d).before a0 Z = true) (via : Via Z R0 O n d) (F : Sta Z h O n d v) (hd : decode code pc = .ok (.getstatic index, 3)) (hp : pc + 3 = pc1) (K : ∀ (T' : State), Pos p l e R s m args below meth c code Z EL wl hS own vm0 T' locs cells slots h → Go p.tables e below G (T'.setTop (mkF m pc1 ls (v :: st)))) : Go p.tables e below G (T.setTop (mkF m pc ls st)) := by
  subst hp
  obtain ⟨T', X', e', stp⟩ := RoadKit.getS (host := "") P.1 P.q.2.1 P.hz P.2.2.2.2.1 w via P.heap F (g := mkF m pc ls st) rfl (hb P.q.2.2 hd)
  exact Go.via stp (K T' (P.same X' e'))
theorem Pos.putF (P : Pos p l e R s m args below meth c code Z EL wl hS own vm0 T locs cells slots h) {R0 O n d host C : String} {index kk : Nat} {ty : FieldType} {a : Addr} {v old : Value} (w : (Cond.fieldLink own index R0 n d).before a0 Z = true ∨ (Cond.fieldLinkNest own index R0 n d host).before a0 Z = true) (via : Via Z R0 O n d) (F : Fld Z h a O n d old) (E : Exa Z h a C) (L : (Cond.lays C O n d).before a0 Z = true ∨ ((Cond.laysFinal C O n d).before a0 Z = true ∧ own = O ∧ meth.name = "<init>")) (wi : (Cond.instantiable C kk).before a0 Z = true) (hty : parseFieldDescriptor d = some ty) (hn : narrow ty v = v) (hf : fits ty v = true) (ga : a ∈ wl ∨ hS.size ≤ a) (S : Safe Z EL vm0 h a) (hd : decode code pc = .ok (.putfield index, 3)) (hp : pc + 3 = pc1) (K : ∀ (T' : State) (h' : Heap), Pos p l e R s m args below meth c code Z EL wl hS own vm0 T' (locs ++ [⟨a, RoadKit.slotOf Z O n d⟩]) cells slots h' → Wr h h' a (RoadKit.slotOf Z O n d) v → Go p.tables e below G (T'.setTop (mkF m pc1 ls st))) : Go p.tables e below G (T.setTop (mkF m pc ls (v :: .ref a :: st))) := by
  subst hp
  obtain ⟨T', h', X', e', W', stp⟩ := RoadKit.putF P.1 P.q.2.1 P.hz P.2.2.2.2.1 w via P.heap F E L wi hty hn hf (g := mkF m pc ls (v :: .ref a :: st)) rfl rfl (hb P.q.2.2 hd)
  exact Go.via stp (K T' h' (P.wrote X' e' W' ga S) W')
theorem Pos.newO (P : Pos p l e R s m args below meth c code Z EL wl hS own vm0 T locs cells slots h) {C : String} {index n : Nat} (w : (Cond.classLink own index C).before a0 Z = true) (wi : (Cond.instantiable C n).before a0 Z = true) (wz : (Cond.initialized C).before a0 Z = true) (hc : cells + 1 ≤ R.cells) (hl : slots + n ≤ R.slots) (hd : decode code pc = .ok (.new index, 3)) (hp : pc + 3 = pc1) (K : ∀ (T' : State) (h' : Heap) (x : Addr), x = h.size → Pos p l e R s m args below meth c code Z EL wl hS own vm0 T' locs (cells + 1) (slots + n) h' → Ext h h' → Exa Z h' x C → (∀ {O nm d : String} {ty : FieldType}, Laid Z a0 C O nm d → parseFieldDescriptor d = some ty → Fld Z h' x O nm d (defaultValue ty)) → (∃ cell : Cell, h'[x]? = some cell ∧ cell.vm = .none ∧ cell.monitor = {}) → Go p.tables e below G (T'.setTop (mkF m pc1 ls (.ref x :: st)))) : Go p.tables e below G (T.setTop (mkF m pc ls st)) := by
  subst hp
  obtain ⟨T', h', X', e', E', A', D', U', stp⟩ := RoadKit.newO P.1 P.q.2.1 P.hz P.2.2.2.2.1 w wi wz P.heap (g := mkF m pc ls st) rfl (hb P.q.2.2 hd) hc hl
  exact Go.via stp (K T' h' _ rfl (P.grown X' e' E') E' A' D' U')
theorem Pos.newP (P : Pos p l e R s m args below meth c code Z EL wl hS own vm0 T locs cells slots h) {aty : ArrayType} {n : Int32} {cap : Nat} (w : (Cond.arrayClass (newarray.typeOf aty)).before a0 Z = true) (hn : ¬ n < 0) (hcap : n.toNatClampNeg ≤ cap) (hb8 : cap * 8 ≤ 536870912) (hc : cells + 1 ≤ R.cells) (hl : slots + cap ≤ R.slots) (hd : decode code pc = .ok (.newarray aty, 2)) (hp : pc + 2 = pc1) (K : ∀ (T' : State) (h' : Heap) (x : Addr) (k : ClassId), x = h.size → Pos p l e R s m args below meth c code Z EL wl hS own vm0 T' locs (cells + 1) (slots + cap) h' → Ext h h' → Arv Z h' x k (newarray.typeOf aty) n (List.replicate n.toNatClampNeg (defaultValue (newarray.typeOf aty))) (defaultValue (newarray.typeOf aty)) → Go p.tables e below G (T'.setTop (mkF m pc1 ls (.ref x :: st)))) : Go p.tables e below G (T.setTop (mkF m pc ls (.int n :: st))) := by
  subst hp
  obtain ⟨T', h', k, X', e', E', A', stp⟩ := RoadKit.newP P.1 P.q.2.1 P.hz w P.heap (g := mkF m pc ls (.int n :: st)) rfl (hb P.q.2.2 hd) rfl hn hcap hb8 hc hl
  exact Go.via stp (K T' h' _ k rfl (P.grown X' e' E') E' ((Arv.new A' hn).pad (pad_rep [] _ _)))
theorem Pos.stC (P : Pos p l e R s m args below meth c code Z EL wl hS own vm0 T locs cells slots h) {a : Addr} {k : ClassId} {z j : Int32} {x : Int32} {vs : List Value} {d : Value} {i : Nat} (V : Arv Z h a k .char z vs d) (hj : ¬ j < 0) (hi : j.toNatClampNeg = i) (hl : i < vs.length) (hz : z.toNatClampNeg = vs.length) (ga : a ∈ wl ∨ hS.size ≤ a) (S : Safe Z EL vm0 h a) (hd : decode code pc = .ok (.castore, 1)) (hp : pc + 1 = pc1) (K : ∀ (T' : State) (h' : Heap), Pos p l e R s m args below meth c code Z EL wl hS own vm0 T' (locs ++ [⟨a, j.toNatClampNeg⟩]) cells slots h' → Wr h h' a j.toNatClampNeg (.int (nar .char x)) → Arv Z h' a k .char z (vs.set i (.int (nar .char x))) d → Go p.tables e below G (T'.setTop (mkF m pc1 ls st))) : Go p.tables e below G (T.setTop (mkF m pc ls (.int x :: .int j :: .ref a :: st))) := by
  subst hp
  obtain ⟨cl, A, q1, S1, q3, H1, G1⟩ := V
  obtain ⟨T', h', X', e', W', stp⟩ := RoadKit.stC P.1 P.q.2.1 P.hz P.heap A (j := j) (x := x) (fun y => y.elim hj (fun y => by rw [S1] at y; omega)) (g := mkF m pc ls (.int x :: .int j :: .ref a :: st)) rfl rfl (hb P.q.2.2 hd)
  exact Go.via stp (K T' h' (P.wrote X' e' W' ga S) W' (Arv.set A q1 S1 q3 H1 G1 (fits_nar_char x) W' i hi hl))
theorem Pos.stB (P : Pos p l e R s m args below meth c code Z EL wl hS own vm0 T locs cells slots h) {a : Addr} {k : ClassId} {z j : Int32} {x : Int32} {vs : List Value} {d : Value} {i : Nat} (V : Arv Z h a k .byte z vs d) (hj : ¬ j < 0) (hi : j.toNatClampNeg = i) (hl : i < vs.length) (hz : z.toNatClampNeg = vs.length) (ga : a ∈ wl ∨ hS.size ≤ a) (S : Safe Z EL vm0 h a) (hd : decode code pc = .ok (.bastore, 1)) (hp : pc + 1 = pc1) (K : ∀ (T' : State) (h' : Heap), Pos p l e R s m args below meth c code Z EL wl hS own vm0 T' (locs ++ [⟨a, j.toNatClampNeg⟩]) cells slots h' → Wr h h' a j.toNatClampNeg (.int (nar .byte x)) → Arv Z h' a k .byte z (vs.set i (.int (nar .byte x))) d → Go p.tables e below G (T'.setTop (mkF m pc1 ls st))) : Go p.tables e below G (T.setTop (mkF m pc ls (.int x :: .int j :: .ref a :: st))) := by
  subst hp
  obtain ⟨cl, A, q1, S1, q3, H1, G1⟩ := V
  obtain ⟨T', h', X', e', W', stp⟩ := RoadKit.stB P.1 P.q.2.1 P.hz P.heap A (j := j) (x := x) (fun y => y.elim hj (fun y => by rw [S1] at y; omega)) (g := mkF m pc ls (.int x :: .int j :: .ref a :: st)) rfl rfl (hb P.q.2.2 hd)
  exact Go.via stp (K T' h' (P.wrote X' e' W' ga S) W' (Arv.set A q1 S1 q3 H1 G1 (fits_nar_byte x) W' i hi hl))
theorem Pos.stZ (P : Pos p l e R s m args below meth c code Z EL wl hS own vm0 T locs cells slots h) {a : Addr} {k : ClassId} {z j : Int32} {x : Int32} {vs : List Value} {d : Value} {i : Nat} (V : Arv Z h a k .boolean z vs d) (hj : ¬ j < 0) (hi : j.toNatClampNeg = i) (hl : i < vs.length) (hz : z.toNatClampNeg = vs.length) (ga : a ∈ wl ∨ hS.size ≤ a) (S : Safe Z EL vm0 h a) (hd : decode code pc = .ok (.bastore, 1)) (hp : pc + 1 = pc1) (K : ∀ (T' : State) (h' : Heap), Pos p l e R s m args below meth c code Z EL wl hS own vm0 T' (locs ++ [⟨a, j.toNatClampNeg⟩]) cells slots h' → Wr h h' a j.toNatClampNeg (.int (nar .boolean x)) → Arv Z h' a k .boolean z (vs.set i (.int (nar .boolean x))) d → Go p.tables e below G (T'.setTop (mkF m pc1 ls st))) : Go p.tables e below G (T.setTop (mkF m pc ls (.int x :: .int j :: .ref a :: st))) := by
  subst hp
  obtain ⟨cl, A, q1, S1, q3, H1, G1⟩ := V
  obtain ⟨T', h', X', e', W', stp⟩ := RoadKit.stZ P.1 P.q.2.1 P.hz P.heap A (j := j) (x := x) (fun y => y.elim hj (fun y => by rw [S1] at y; omega)) (g := mkF m pc ls (.int x :: .int j :: .ref a :: st)) rfl rfl (hb P.q.2.2 hd)
  exact Go.via stp (K T' h' (P.wrote X' e' W' ga S) W' (Arv.set A q1 S1 q3 H1 G1 (fits_nar_bool x) W' i hi hl))
theorem Pos.stI (P : Pos p l e R s m args below meth c code Z EL wl hS own vm0 T locs cells slots h) {a : Addr} {k : ClassId} {z j : Int32} {x : Int32} {vs : List Value} {d : Value} {i : Nat} (V : Arv Z h a k .int z vs d) (hj : ¬ j < 0) (hi : j.toNatClampNeg = i) (hl : i < vs.length) (hz : z.toNatClampNeg = vs.length) (ga : a ∈ wl ∨ hS.size ≤ a) (S : Safe Z EL vm0 h a) (hd : decode code pc = .ok (.iastore, 1)) (hp : pc + 1 = pc1) (K : ∀ (T' : State) (h' : Heap), Pos p l e R s m args below meth c code Z EL wl hS own vm0 T' (locs ++ [⟨a, j.toNatClampNeg⟩]) cells slots h' → Wr h h' a j.toNatClampNeg (.int x) → Arv Z h' a k .int z (vs.set i (.int x)) d → Go p.tables e below G (T'.setTop (mkF m pc1 ls st))) : Go p.tables e below G (T.setTop (mkF m pc ls (.int x :: .int j :: .ref a :: st))) := by
  subst hp
  obtain ⟨cl, A, q1, S1, q3, H1, G1⟩ := V
  obtain ⟨T', h', X', e', W', stp⟩ := RoadKit.stI P.1 P.q.2.1 P.hz P.heap A (j := j) (x := x) (fun y => y.elim hj (fun y => by rw [S1] at y; omega)) (g := mkF m pc ls (.int x :: .int j :: .ref a :: st)) rfl rfl (hb P.q.2.2 hd)
  exact Go.via stp (K T' h' (P.wrote X' e' W' ga S) W' (Arv.set A q1 S1 q3 H1 G1 (rfl) W' i hi hl))
theorem Pos.stJ (P : Pos p l e R s m args below meth c code Z EL wl hS own vm0 T locs cells slots h) {a : Addr} {k : ClassId} {z j : Int32} {x : Int64} {vs : List Value} {d : Value} {i : Nat} (V : Arv Z h a k .long z vs d) (hj : ¬ j < 0) (hi : j.toNatClampNeg = i) (hl : i < vs.length) (hz : z.toNatClampNeg = vs.length) (ga : a ∈ wl ∨ hS.size ≤ a) (S : Safe Z EL vm0 h a) (hd : decode code pc = .ok (.lastore, 1)) (hp : pc + 1 = pc1) (K : ∀ (T' : State) (h' : Heap), Pos p l e R s m args below meth c code Z EL wl hS own vm0 T' (locs ++ [⟨a, j.toNatClampNeg⟩]) cells slots h' → Wr h h' a j.toNatClampNeg (.long x) → Arv Z h' a k .long z (vs.set i (.long x)) d → Go p.tables e below G (T'.setTop (mkF m pc1 ls st))) : Go p.tables e below G (T.setTop (mkF m pc ls (.long x :: .int j :: .ref a :: st))) := by
  subst hp
  obtain ⟨cl, A, q1, S1, q3, H1, G1⟩ := V
  obtain ⟨T', h', X', e', W', stp⟩ := RoadKit.stJ P.1 P.q.2.1 P.hz P.heap A (j := j) (x := x) (fun y => y.elim hj (fun y => by rw [S1] at y; omega)) (g := mkF m pc ls (.long x :: .int j :: .ref a :: st)) rfl rfl (hb P.q.2.2 hd)
  exact Go.via stp (K T' h' (P.wrote X' e' W' ga S) W' (Arv.set A q1 S1 q3 H1 G1 (rfl) W' i hi hl))
theorem Pos.stD (P : Pos p l e R s m args below meth c code Z EL wl hS own vm0 T locs cells slots h) {a : Addr} {k : ClassId} {z j : Int32} {x : UInt64} {vs : List Value} {d : Value} {i : Nat} (V : Arv Z h a k .double z vs d) (hj : ¬ j < 0) (hi : j.toNatClampNeg = i) (hl : i < vs.length) (hz : z.toNatClampNeg = vs.length) (ga : a ∈ wl ∨ hS.size ≤ a) (S : Safe Z EL vm0 h a) (hd : decode code pc = .ok (.dastore, 1)) (hp : pc + 1 = pc1) (K : ∀ (T' : State) (h' : Heap), Pos p l e R s m args below meth c code Z EL wl hS own vm0 T' (locs ++ [⟨a, j.toNatClampNeg⟩]) cells slots h' → Wr h h' a j.toNatClampNeg (.double x) → Arv Z h' a k .double z (vs.set i (.double x)) d → Go p.tables e below G (T'.setTop (mkF m pc1 ls st))) : Go p.tables e below G (T.setTop (mkF m pc ls (.double x :: .int j :: .ref a :: st))) := by
  subst hp
  obtain ⟨cl, A, q1, S1, q3, H1, G1⟩ := V
  obtain ⟨T', h', X', e', W', stp⟩ := RoadKit.stD P.1 P.q.2.1 P.hz P.heap A (j := j) (x := x) (fun y => y.elim hj (fun y => by rw [S1] at y; omega)) (g := mkF m pc ls (.double x :: .int j :: .ref a :: st)) rfl rfl (hb P.q.2.2 hd)
  exact Go.via stp (K T' h' (P.wrote X' e' W' ga S) W' (Arv.set A q1 S1 q3 H1 G1 (rfl) W' i hi hl))
theorem Pos.stF (P : Pos p l e R s m args below meth c code Z EL wl hS own vm0 T locs cells slots h) {a : Addr} {k : ClassId} {z j : Int32} {x : UInt32} {vs : List Value} {d : Value} {i : Nat} (V : Arv Z h a k .float z vs d) (hj : ¬ j < 0) (hi : j.toNatClampNeg = i) (hl : i < vs.length) (hz : z.toNatClampNeg = vs.length) (ga : a ∈ wl ∨ hS.size ≤ a) (S : Safe Z EL vm0 h a) (hd : decode code pc = .ok (.fastore, 1)) (hp : pc + 1 = pc1) (K : ∀ (T' : State) (h' : Heap), Pos p l e R s m args below meth c code Z EL wl hS own vm0 T' (locs ++ [⟨a, j.toNatClampNeg⟩]) cells slots h' → Wr h h' a j.toNatClampNeg (.float x) → Arv Z h' a k .float z (vs.set i (.float x)) d → Go p.tables e below G (T'.setTop (mkF m pc1 ls st))) : Go p.tables e below G (T.setTop (mkF m pc ls (.float x :: .int j :: .ref a :: st))) := by
  subst hp
  obtain ⟨cl, A, q1, S1, q3, H1, G1⟩ := V
  obtain ⟨T', h', X', e', W', stp⟩ := RoadKit.stF P.1 P.q.2.1 P.hz P.heap A (j := j) (x := x) (fun y => y.elim hj (fun y => by rw [S1] at y; omega)) (g := mkF m pc ls (.float x :: .int j :: .ref a :: st)) rfl rfl (hb P.q.2.2 hd)
  exact Go.via stp (K T' h' (P.wrote X' e' W' ga S) W' (Arv.set A q1 S1 q3 H1 G1 (rfl) W' i hi hl))
theorem Pos.ldC (P : Pos p l e R s m args below meth c code Z EL wl hS own vm0 T locs cells slots h) {a : Addr} {k : ClassId} {z j : Int32} {vs : List Value} {d v : Value} (V : Arv Z h a k .char z vs d) (hj : ¬ j < 0) (hz : j.toNatClampNeg < z.toNatClampNeg) (hv : vs.getD j.toNatClampNeg d = v) (hd : decode code pc = .ok (.caload, 1)) (hp : pc + 1 = pc1) (K : Go p.tables e below G (T.setTop (mkF m pc1 ls (v :: st)))) : Go p.tables e below G (T.setTop (mkF m pc ls (.int j :: .ref a :: st))) := by
  subst hp
  obtain ⟨cl, A, q1, S1, q3, H1, G1⟩ := V
  exact Go.via (fun t k => P.1.caload P.q.2.1 (j := j) (v := v) (by rw [P.heap]; exact A.1) (State.isArrayOf_alike P.hz.alike A.2.1) A.2.2 (fun y => y.elim hj (fun y => by rw [S1] at y; omega)) (by rw [← hv]; exact H1 _ (by rw [S1]; exact hz)) (g := mkF m pc ls (.int j :: .ref a :: st)) rfl rfl (hb P.q.2.2 hd) t k) K
theorem Pos.ldB (P : Pos p l e R s m args below meth c code Z EL wl hS own vm0 T locs cells slots h) {a : Addr} {k : ClassId} {z j : Int32} {vs : List Value} {d v : Value} (V : Arv Z h a k .byte z vs d) (hj : ¬ j < 0) (hz : j.toNatClampNeg < z.toNatClampNeg) (hv : vs.getD j.toNatClampNeg d = v) (hd : decode code pc = .ok (.baload, 1)) (hp : pc + 1 = pc1) (K : Go p.tables e below G (T.setTop (mkF m pc1 ls (v :: st)))) : Go p.tables e below G (T.setTop (mkF m pc ls (.int j :: .ref a :: st))) := by
  subst hp
  obtain ⟨cl, A, q1, S1, q3, H1, G1⟩ := V
  exact Go.via (fun t k => P.1.baloadBytes P.q.2.1 (j := j) (v := v) (by rw [P.heap]; exact A.1) (State.isArrayOf_alike P.hz.alike A.2.1) A.2.2 (fun y => y.elim hj (fun y => by rw [S1] at y; omega)) (by rw [← hv]; exact H1 _ (by rw [S1]; exact hz)) (g := mkF m pc ls (.int j :: .ref a :: st)) rfl rfl (hb P.q.2.2 hd) t k) K
theorem Pos.ldZ (P : Pos p l e R s m args below meth c code Z EL wl hS own vm0 T locs cells slots h) {a : Addr} {k : ClassId} {z j : Int32} {vs : List Value} {d v : Value} (V : Arv Z h a k .boolean z vs d) (hj : ¬ j < 0) (hz : j.toNatClampNeg < z.toNatClampNeg) (hv : vs.getD j.toNatClampNeg d = v) (hd : decode code pc = .ok (.baload, 1)) (hp : pc + 1 = pc1) (K : Go p.tables e below G (T.setTop (mkF m pc1 ls (v :: st)))) : Go p.tables e below G (T.setTop (mkF m pc ls (.int j :: .ref a :: st))) := by
  subst hp
  obtain ⟨cl, A, q1, S1, q3, H1, G1⟩ := V
  exact Go.via (fun t k => P.1.baloadBooleans P.q.2.1 (j := j) (v := v) (by rw [P.heap]; exact A.1) (State.isArrayOf_alike P.hz.alike A.2.1) A.2.2 (fun y => y.elim hj (fun y => by rw [S1] at y; omega)) (by rw [← hv]; exact H1 _ (by rw [S1]; exact hz)) (g := mkF m pc ls (.int j :: .ref a :: st)) rfl rfl (hb P.q.2.2 hd) t k) K
theorem Pos.ldI (P : Pos p l e R s m args below meth c code Z EL wl hS own vm0 T locs cells slots h) {a : Addr} {k : ClassId} {z j : Int32} {vs : List Value} {d v : Value} (V : Arv Z h a k .int z vs d) (hj : ¬ j < 0) (hz : j.toNatClampNeg < z.toNatClampNeg) (hv : vs.getD j.toNatClampNeg d = v) (hd : decode code pc = .ok (.iaload, 1)) (hp : pc + 1 = pc1) (K : Go p.tables e below G (T.setTop (mkF m pc1 ls (v :: st)))) : Go p.tables e below G (T.setTop (mkF m pc ls (.int j :: .ref a :: st))) := by
  subst hp
  obtain ⟨cl, A, q1, S1, q3, H1, G1⟩ := V
  exact Go.via (fun t k => P.1.iaload P.q.2.1 (j := j) (v := v) (by rw [P.heap]; exact A.1) (State.isArrayOf_alike P.hz.alike A.2.1) A.2.2 (fun y => y.elim hj (fun y => by rw [S1] at y; omega)) (by rw [← hv]; exact H1 _ (by rw [S1]; exact hz)) (g := mkF m pc ls (.int j :: .ref a :: st)) rfl rfl (hb P.q.2.2 hd) t k) K
theorem Pos.ldJ (P : Pos p l e R s m args below meth c code Z EL wl hS own vm0 T locs cells slots h) {a : Addr} {k : ClassId} {z j : Int32} {vs : List Value} {d v : Value} (V : Arv Z h a k .long z vs d) (hj : ¬ j < 0) (hz : j.toNatClampNeg < z.toNatClampNeg) (hv : vs.getD j.toNatClampNeg d = v) (hd : decode code pc = .ok (.laload, 1)) (hp : pc + 1 = pc1) (K : Go p.tables e below G (T.setTop (mkF m pc1 ls (v :: st)))) : Go p.tables e below G (T.setTop (mkF m pc ls (.int j :: .ref a :: st))) := by
  subst hp
  obtain ⟨cl, A, q1, S1, q3, H1, G1⟩ := V
  exact Go.via (fun t k => P.1.laload P.q.2.1 (j := j) (v := v) (by rw [P.heap]; exact A.1) (State.isArrayOf_alike P.hz.alike A.2.1) A.2.2 (fun y => y.elim hj (fun y => by rw [S1] at y; omega)) (by rw [← hv]; exact H1 _ (by rw [S1]; exact hz)) (g := mkF m pc ls (.int j :: .ref a :: st)) rfl rfl (hb P.q.2.2 hd) t k) K
theorem Pos.ldD (P : Pos p l e R s m args below meth c code Z EL wl hS own vm0 T locs cells slots h) {a : Addr} {k : ClassId} {z j : Int32} {vs : List Value} {d v : Value} (V : Arv Z h a k .double z vs d) (hj : ¬ j < 0) (hz : j.toNatClampNeg < z.toNatClampNeg) (hv : vs.getD j.toNatClampNeg d = v) (hd : decode code pc = .ok (.daload, 1)) (hp : pc + 1 = pc1) (K : Go p.tables e below G (T.setTop (mkF m pc1 ls (v :: st)))) : Go p.tables e below G (T.setTop (mkF m pc ls (.int j :: .ref a :: st))) := by
  subst hp
  obtain ⟨cl, A, q1, S1, q3, H1, G1⟩ := V
  exact Go.via (fun t k => P.1.daload P.q.2.1 (j := j) (v := v) (by rw [P.heap]; exact A.1) (State.isArrayOf_alike P.hz.alike A.2.1) A.2.2 (fun y => y.elim hj (fun y => by rw [S1] at y; omega)) (by rw [← hv]; exact H1 _ (by rw [S1]; exact hz)) (g := mkF m pc ls (.int j :: .ref a :: st)) rfl rfl (hb P.q.2.2 hd) t k) K
theorem Pos.ldF (P : Pos p l e R s m args below meth c code Z EL wl hS own vm0 T locs cells slots h) {a : Addr} {k : ClassId} {z j : Int32} {vs : List Value} {d v : Value} (V : Arv Z h a k .float z vs d) (hj : ¬ j < 0) (hz : j.toNatClampNeg < z.toNatClampNeg) (hv : vs.getD j.toNatClampNeg d = v) (hd : decode code pc = .ok (.faload, 1)) (hp : pc + 1 = pc1) (K : Go p.tables e below G (T.setTop (mkF m pc1 ls (v :: st)))) : Go p.tables e below G (T.setTop (mkF m pc ls (.int j :: .ref a :: st))) := by
  subst hp
  obtain ⟨cl, A, q1, S1, q3, H1, G1⟩ := V
  exact Go.via (fun t k => P.1.faload P.q.2.1 (j := j) (v := v) (by rw [P.heap]; exact A.1) (State.isArrayOf_alike P.hz.alike A.2.1) A.2.2 (fun y => y.elim hj (fun y => by rw [S1] at y; omega)) (by rw [← hv]; exact H1 _ (by rw [S1]; exact hz)) (g := mkF m pc ls (.int j :: .ref a :: st)) rfl rfl (hb P.q.2.2 hd) t k) K
theorem Pos.ldR (P : Pos p l e R s m args below meth c code Z EL wl hS own vm0 T locs cells slots h) {a : Addr} {k : ClassId} {ty : FieldType} {z j : Int32} {vs : List Value} {d v : Value} (V : Arv Z h a k ty z vs d) (hty : ty.isReference = true) (hj : ¬ j < 0) (hz : j.toNatClampNeg < z.toNatClampNeg) (hv : vs.getD j.toNatClampNeg d = v) (hd : decode code pc = .ok (.aaload, 1)) (hp : pc + 1 = pc1) (K : Go p.tables e below G (T.setTop (mkF m pc1 ls (v :: st)))) : Go p.tables e below G (T.setTop (mkF m pc ls (.int j :: .ref a :: st))) := by
  subst hp
  obtain ⟨cl, A, q1, S1, q3, H1, G1⟩ := V
  exact Go.via (fun t k => P.1.aaload P.q.2.1 (j := j) (v := v) (by rw [P.heap]; exact A.1) (State.isArrayOf_alike P.hz.alike A.2.1) hty A.2.2 (fun y => y.elim hj (fun y => by rw [S1] at y; omega)) (by rw [← hv]; exact H1 _ (by rw [S1]; exact hz)) (g := mkF m pc ls (.int j :: .ref a :: st)) rfl rfl (hb P.q.2.2 hd) t k) K
theorem Pos.cloneR (P : Pos p l e R s m args below meth c code Z EL wl hS own vm0 T locs cells slots h) {ad : String} {index : Nat} {a : Addr} {k : ClassId} {ty : FieldType} {z : Int32} {vs : List Value} {d : Value} {W cap : Nat} (w1 : (Cond.methodLink own index ⟨ad, "clone", "()Ljava/lang/Object;"⟩).before a0 Z = true) (w2 : (Cond.sameMethod ad "java/lang/Object" "clone" "()Ljava/lang/Object;").before a0 Z = true) (w3 : (Cond.native ⟨"java/lang/Object", "clone", "()Ljava/lang/Object;"⟩).before a0 Z = true) (w4 : (Cond.instanceMethod ⟨"java/lang/Object", "clone", "()Ljava/lang/Object;"⟩).before a0 Z = true) (w5 : (Cond.selects ad ⟨ad, "clone", "()Ljava/lang/Object;"⟩ ⟨"java/lang/Object", "clone", "()Ljava/lang/Object;"⟩).before a0 Z = true) (w6 : (Cond.castable ad "java/lang/Cloneable").before a0 Z = true) (V : Arv Z h a k ty z vs d) (E : Exa Z h a ad) (hsize : ls.size = c.maxLocals) (hf : 1 ≤ R.frames) (hW : (st.map fun v => v.category).sum ≤ W) (hl : W + 14 ≤ R.locals) (hcap : z.toNatClampNeg ≤ cap) (hc : cells + 1 ≤ R.cells) (hsl : slots + cap ≤ R.slots) (hd : decode code pc = .ok (.invokevirtual index, 3)) (hp : pc + 3 = pc1) (K : ∀ (T' : State) (h' : Heap) (x : Addr), x = h.size → Pos p l e R s m args below meth c code Z EL wl hS own vm0 T' locs (cells + 1) (slots + cap) h' → Ext h h' → Arv Z h' x k ty z vs d → Exa Z h' x ad → Go p.tables e below G (T'.setTop (mkF m pc1 ls (.ref x :: st)))) : Go p.tables e below G (T.setTop (mkF m pc ls (.ref a :: st))) := by
  subst hp
  obtain ⟨T', h', X', e', E', A', Ex', stp⟩ := RoadKit.cloneH P.1 P.q.2.1 P.hz P.2.2.2.2.1 w1 w2 w3 w4 w5 w6 P.heap V.arh E (g := mkF m pc ls (.ref a :: st)) rfl hsize rfl (hb P.q.2.2 hd) hf (W := W) (by show 2 * 0 + _ ≤ _; omega) hl hcap hc hsl
  exact Go.via stp (K T' h' _ rfl (P.grown X' e' E') E' A' Ex')
theorem Pos.len (P : Pos p l e R s m args below meth c code Z EL wl hS own vm0 T locs cells slots h) {a : Addr} {k : ClassId} {ty : FieldType} {z : Int32} {vs : List Value} {d : Value} (V : Arv Z h a k ty z vs d) (hd : decode code pc = .ok (.arraylength, 1)) (hp : pc + 1 = pc1) (K : Go p.tables e below G (T.setTop (mkF m pc1 ls (.int z :: st)))) : Go p.tables e below G (T.setTop (mkF m pc ls (.ref a :: st))) := by
  subst hp
  obtain ⟨cl, A, q1, S1, q3, H1, G1⟩ := V
  rw [← len_of S1 q3] at K
  exact Go.via (fun t k => P.1.arraylength P.q.2.1 (cell := cl) (by rw [P.heap]; exact A.1) (State.isArrayOf_alike P.hz.alike A.2.1) (g := mkF m pc ls (.ref a :: st)) rfl (rest := st) rfl (hb P.q.2.2 hd) t k) K
theorem Pos.initO (P : Pos p l e R s m args below meth c code Z EL wl hS own vm0 T locs cells slots h) {idx : Nat} {a : Addr} {W : Nat} (w1 : (Cond.methodLink own idx Lib.objectInit).before a0 Z = true) (w2 : (Cond.instanceMethod Lib.objectInit).before a0 Z = true) (w3 : (Cond.code Lib.objectInit ⟨#[0xb1]⟩ 1 none).before a0 Z = true) (hsize : ls.size = c.maxLocals) (hf : 1 ≤ R.frames) (hW : (st.map fun v => v.category).sum ≤ W) (hl : W + 12 ≤ R.locals) (hd : decode code pc = .ok (.invokespecial idx, 3)) (hp : pc + 3 = pc1) (K : ∀ (T' : State), Pos p l e R s m args below meth c code Z EL wl hS own vm0 T' locs cells slots h → Go p.tables e below G (T'.setTop (mkF m pc1 ls st))) : Go p.tables e below G (T.setTop (mkF m pc ls (.ref a :: st))) := by
  subst hp
  obtain ⟨T', X', e', stp⟩ := RoadKit.initO P.1 P.q.2.1 P.hz P.2.2.2.2.1 w1 w2 w3 P.heap (g := mkF m pc ls (.ref a :: st)) rfl hsize rfl (hb P.q.2.2 hd) hf (W := W) (by show 2 * 0 + _ ≤ _; omega) hl
  exact Go.via stp (K T' (P.same X' e'))
theorem Pos.castY (P : Pos p l e R s m args below meth c code Z EL wl hS own vm0 T locs cells slots h) {C : String} {index : Nat} {a : Addr} (w : (Cond.classLink own index C).before a0 Z = true) (F : Ins Z h a C true) (hd : decode code pc = .ok (.checkcast index, 3)) (hp : pc + 3 = pc1) (K : ∀ (T' : State), Pos p l e R s m args below meth c code Z EL wl hS own vm0 T' locs cells slots h → Go p.tables e below G (T'.setTop (mkF m pc1 ls (.ref a :: st)))) : Go p.tables e below G (T.setTop (mkF m pc ls (.ref a :: st))) := by
  subst hp
  obtain ⟨T', X', e', stp⟩ := RoadKit.castY P.1 P.q.2.1 P.hz P.2.2.2.2.1 w P.heap F (g := mkF m pc ls (.ref a :: st)) rfl rfl (hb P.q.2.2 hd)
  exact Go.via stp (K T' (P.same X' e'))
theorem Pos.instY (P : Pos p l e R s m args below meth c code Z EL wl hS own vm0 T locs cells slots h) {C : String} {index : Nat} {a : Addr} (w : (Cond.classLink own index C).before a0 Z = true) (F : Ins Z h a C true) (hd : decode code pc = .ok (.instanceof index, 3)) (hp : pc + 3 = pc1) (K : ∀ (T' : State), Pos p l e R s m args below meth c code Z EL wl hS own vm0 T' locs cells slots h → Go p.tables e below G (T'.setTop (mkF m pc1 ls (.int 1 :: st)))) : Go p.tables e below G (T.setTop (mkF m pc ls (.ref a :: st))) := by
  subst hp
  obtain ⟨T', X', e', stp⟩ := RoadKit.instY P.1 P.q.2.1 P.hz P.2.2.2.2.1 w P.heap F (g := mkF m pc ls (.ref a :: st)) rfl rfl (hb P.q.2.2 hd)
  exact Go.via stp (K T' (P.same X' e'))
theorem Pos.instNull (P : Pos p l e R s m args below meth c code Z EL wl hS own vm0 T locs cells slots h) {index : Nat} (hd : decode code pc = .ok (.instanceof index, 3)) (hp : pc + 3 = pc1) (K : Go p.tables e below G (T.setTop (mkF m pc1 ls (.int 0 :: st)))) : Go p.tables e below G (T.setTop (mkF m pc ls (.null :: st))) := by
  subst hp; exact Go.via (P.1.instanceofNull P.q.2.1 (g := mkF m pc ls (.null :: st)) rfl rfl (hb P.q.2.2 hd)) K
theorem Pos.castNull (P : Pos p l e R s m args below meth c code Z EL wl hS own vm0 T locs cells slots h) {index : Nat} (hd : decode code pc = .ok (.checkcast index, 3)) (hp : pc + 3 = pc1) (K : Go p.tables e below G (T.setTop (mkF m pc1 ls (.null :: st)))) : Go p.tables e below G (T.setTop (mkF m pc ls (.null :: st))) := by
  subst hp; exact Go.via (P.1.checkcastNull P.q.2.1 (g := mkF m pc ls (.null :: st)) rfl rfl (hb P.q.2.2 hd)) K
theorem Pos.instNo (P : Pos p l e R s m args below meth c code Z EL wl hS own vm0 T locs cells slots h) {C D : String} {index : Nat} {a : Addr} (w : (Cond.classLink own index C).before a0 Z = true) (E : Exa Z h a D) (F : ∃ c t, Z.vm.findClass D = some c ∧ Z.vm.findClass C = some t ∧ Z.vm.assignable c t = false) (hd : decode code pc = .ok (.instanceof index, 3)) (hp : pc + 3 = pc1) (K : ∀ (T' : State), Pos p l e R s m args below meth c code Z EL wl hS own vm0 T' locs cells slots h → Go p.tables e below G (T'.setTop (mkF m pc1 ls (.int 0 :: st)))) : Go p.tables e below G (T.setTop (mkF m pc ls (.ref a :: st))) := by
  subst hp
  obtain ⟨T', X', e', stp⟩ := RoadKit.instNo P.1 P.q.2.1 P.hz P.2.2.2.2.1 w P.heap E F (g := mkF m pc ls (.ref a :: st)) rfl rfl (hb P.q.2.2 hd)
  exact Go.via stp (K T' (P.same X' e'))
theorem Pos.exc1 (P : Pos p l e R s m args below meth c code Z EL wl hS own vm0 T locs cells slots h) (htr : l.stackTraces = true) {rc : String} {links : List Jvm.Free.Exc.Link} {ic n : Nat} (hok : Jvm.Free.Exc.linksOk 1 links = true) (w1 : (Cond.methodLink own ic (Jvm.Free.Exc.ctor 1 (Jvm.Free.Exc.headName links))).before a0 Z = true) (w2 : (Cond.instanceMethod (Jvm.Free.Exc.ctor 1 (Jvm.Free.Exc.headName links))).before a0 Z = true) (wT : (Jvm.Free.Exc.chainTab 1 rc links).before a0 Z = true) (wi : (Cond.instantiable rc n).before a0 Z = true) (r : ∀ d ∈ twoRefs, d.before a0 Z = true)
    (hT0 : ThS Z hS) (hT : ThS Z h) (hTK : vm0.MethodsKnown) (hBelow : vm0.FramesKnown below) {a : Addr} (E : Exa Z h a rc) (N : Unt h a) (B : Fld Z h a Bundle.tN "backtrace" Jvm.Free.Exc.obD .null) (B2 : Fld Z h a Bundle.tN "detailMessage" Jvm.Free.Exc.msgD .null) {msg : Value} (hmsg : msg.isRef = true) (ga : a ∈ wl ∨ hS.size ≤ a) (S : Safe Z EL vm0 h a)
    (hsize : ls.size = c.maxLocals) {W : Nat} (hW : (st.map fun v => v.category).sum ≤ W) (hf : 4 + links.length ≤ R.frames) (hlo : W + (56 + 14 * links.length) ≤ R.locals) (hc : cells + 1 ≤ R.cells) (hsl : slots + 2752 ≤ R.slots) (hd : decode code pc = .ok (.invokespecial ic, 3)) (hp : pc + 3 = pc1)
    (K : ∀ (T' : State) (h' : Heap), Pos p l e R s m args below meth c code Z EL wl hS own vm0 T' (locs ++ sixLocs Z a) (cells + 1) (slots + 2752) h' → Kp Z h h' a → Exa Z h' a rc → Unt h' a → Fld Z h' a Bundle.tN "detailMessage" Jvm.Free.Exc.msgD msg → ThS Z h' → Go p.tables e below G (T'.setTop (mkF m pc1 ls st))) : Go p.tables e below G (T.setTop (mkF m pc ls (msg :: .ref a :: st))) := by
  subst hp
  obtain ⟨T', h', X', e', K', E', N', M', -, hT', stp⟩ := RoadKit.excL1 P.1 P.q.2.1 htr P.hz P.2.2.2.2.1 hok w1 w2 wT wi r (by have q := P.2.2.2.2.2.2.1; show ThS Z s.heap; rw [q]; exact hT0) hT hTK hBelow P.heap E N B B2 hmsg (g := mkF m pc ls (msg :: .ref a :: st)) rfl hsize rfl (hb P.q.2.2 hd) hf (by show 2 * 0 + _ + _ ≤ _; omega) hc hsl
  refine Go.via stp (K T' h' ?_ K' E' N' M' hT')
  have C' : CHr Z EL vm0 h vm0 h' := CHr.keep (keep_of_kp K') (sfS S sf0) P.chv
  obtain ⟨X, eT, hsi, hZ, hown, N, n1, C, hx, hby⟩ := P; obtain ⟨k0, q1, q2⟩ := hsi
  exact ⟨X', e', ⟨k0, q1, Nat.le_trans q2 C'.2.1⟩, hZ, hown, N.app (fun y hy => by obtain ⟨nd, -, rfl⟩ := List.mem_map.mp hy; exact ga), n1, C.trans C', hx, hby⟩
theorem Pos.alS (P : Pos p l e R s m args below meth c code Z EL wl hS own vm0 T locs cells slots h) : s.vm.Alike vm0 := by obtain ⟨k0, q1, q2⟩ := P.2.2.1; exact q1.1.alike
theorem Pos.ldcI (P : Pos p l e R s m args below meth c code Z EL wl hS own vm0 T locs cells slots h) {index : Nat} {v : Int32} (w : (Cond.constant own index v).before a0 Z = true) (hd : decode code pc = .ok (.ldc index, 2)) (hp : pc + 2 = pc1) (K : Go p.tables e below G (T.setTop (mkF m pc1 ls (.int v :: st)))) : Go p.tables e below G (T.setTop (mkF m pc ls st)) := by
  subst hp; exact Go.via (P.1.ldcInt P.q.2.1 P.2.2.2.2.1 (mvT P.hz w) (g := mkF m pc ls st) rfl (hb P.q.2.2 hd)) K
theorem Pos.ldc2J (P : Pos p l e R s m args below meth c code Z EL wl hS own vm0 T locs cells slots h) {index : Nat} {v : Int64} (w : (Cond.constantLong own index v).before a0 Z = true) (hd : decode code pc = .ok (.ldc2_w index, 3)) (hp : pc + 3 = pc1) (K : Go p.tables e below G (T.setTop (mkF m pc1 ls (.long v :: st)))) : Go p.tables e below G (T.setTop (mkF m pc ls st)) := by
  subst hp; exact Go.via (P.1.ldc2Long P.q.2.1 P.2.2.2.2.1 (mvT P.hz w) (g := mkF m pc ls st) rfl (hb P.q.2.2 hd)) K
theorem Pos.ldcF (P : Pos p l e R s m args below meth c code Z EL wl hS own vm0 T locs cells slots h) {index : Nat} {v : UInt32} (w : (Cond.constantFloat own index v).before a0 Z = true) (hd : decode code pc = .ok (.ldc index, 2)) (hp : pc + 2 = pc1) (K : Go p.tables e below G (T.setTop (mkF m pc1 ls (.float v :: st)))) : Go p.tables e below G (T.setTop (mkF m pc ls st)) := by
  subst hp; exact Go.via (P.1.ldcFloatC P.q.2.1 P.2.2.2.2.1 (mvT P.hz w) (g := mkF m pc ls st) rfl (hb P.q.2.2 hd)) K
theorem Pos.ldc2D (P : Pos p l e R s m args below meth c code Z EL wl hS own vm0 T locs cells slots h) {index : Nat} {v : UInt64} (w : (Cond.constantDouble own index v).before a0 Z = true) (hd : decode code pc = .ok (.ldc2_w index, 3)) (hp : pc + 3 = pc1) (K : Go p.tables e below G (T.setTop (mkF m pc1 ls (.double v :: st)))) : Go p.tables e below G (T.setTop (mkF m pc ls st)) := by
  subst hp; exact Go.via (P.1.ldc2DoubleC P.q.2.1 P.2.2.2.2.1 (mvT P.hz w) (g := mkF m pc ls st) rfl (hb P.q.2.2 hd)) K
theorem Pos.ldcO (P : Pos p l e R s m args below meth c code Z EL wl hS own vm0 T locs cells slots h) {index : Nat} {text : String} {n : Nat} (w : (Cond.stringLink own index text).before a0 Z = true) (wS : ∀ a ∈ Bundle.stringAtoms, a.before a0 Z = true) (hEL : EW Z a0 EL) (hn : 4 * text.toList.length ≤ n) (hbig : n ≤ 536870912) (hc : cells + 2 ≤ R.cells) (hl : slots + (n + 4) ≤ R.slots) (hd : decode code pc = .ok (.ldc index, 2)) (hp : pc + 2 = pc1)
    (K : ∀ (a : Addr) (T' : State) (h' : Heap), Pos p l e R s m args below meth c code Z EL wl hS own T'.vm T' locs (cells + 2) (slots + (n + 4)) h' → Ext h h' → CHr Z EL vm0 h T'.vm h' → Lit (s.setVm T'.vm) own index a → Go p.tables e below G (T'.setTop (mkF m pc1 ls (.ref a :: st)))) : Go p.tables e below G (T.setTop (mkF m pc ls st)) := by
  subst hp
  obtain ⟨X, eT, hsi, hZ, hown, N, n1, C, hx, hby⟩ := P
  obtain ⟨k0, q1, q2⟩ := hsi
  obtain ⟨a, T', h', k1, X', e', E', hS2, hk2, hW, hf, hC, hL, stp⟩ := RoadKit.ldcOH X hx hZ hown w wS eT q1 q2 hEL C.1 (g := mkF m pc ls st) rfl (hb hby hd) hn hbig hc hl
  exact Go.via stp (K a T' h' ⟨X', e', ⟨k1, hS2, hk2⟩, hW, hf, N, n1, C.trans hC, hx, hby⟩ E' hC hL)
theorem Pos.ldcR (P : Pos p l e R s m args below meth c code Z EL wl hS own vm0 T locs cells slots h) {index : Nat} {text : String} {n : Nat} (w : (Cond.stringLink own index text).before a0 Z = true) (wS : ∀ a ∈ Bundle.stringAtoms, a.before a0 Z = true) (hEL : EW Z a0 EL) (hmem : (own, index) ∈ EL) {vs : List Value} {z : Int32} (ht : (∀ c ∈ text.toList, c.toNat < 256) ∧ text.toList.map (fun c => Value.int (Jvm.Lit.byteI c.toNat.toUInt16)) = vs) (hz : ¬ z < 0) (hlz : z.toNatClampNeg = vs.length) (hn : 4 * text.toList.length ≤ n) (hbig : n ≤ 536870912) (hc : cells + 2 ≤ R.cells) (hl : slots + (n + 4) ≤ R.slots) (hd : decode code pc = .ok (.ldc index, 2)) (hp : pc + 2 = pc1)
    (K : ∀ (a : Addr) (T' : State) (h' : Heap) (b : Addr) (k : ClassId), Pos p l e R s m args below meth c code Z EL wl hS own T'.vm T' locs (cells + 2) (slots + (n + 4)) h' → Ext h h' → CHr Z EL vm0 h T'.vm h' → Exa Z h' a "java/lang/String" → Fld Z h' a "java/lang/String" "coder" "B" (.int 0) → Fld Z h' a "java/lang/String" "value" "[B" (.ref b) → Arv Z h' b k .byte z vs (.int 0) → (∀ x, Safe Z EL T'.vm h' x → x ≠ a ∧ x ≠ b) → Lit (s.setVm T'.vm) own index a → Go p.tables e below G (T'.setTop (mkF m pc1 ls (.ref a :: st)))) : Go p.tables e below G (T.setTop (mkF m pc ls st)) := by
  subst hp
  obtain ⟨X, eT, hsi, hZ, hown, N, n1, C, hx, hby⟩ := P
  obtain ⟨k0, q1, q2⟩ := hsi
  obtain ⟨a, T', h', k1, b, k, X', e', E', hS2, hk2, hW, hf, y1, y2, y3, y4, -, -, hC, hL, hne, stp⟩ := RoadKit.ldcCH X hx hZ hown w wS eT q1 q2 hEL hmem C.1 ht hz hlz (g := mkF m pc ls st) rfl (hb hby hd) hn hbig hc hl
  exact Go.via stp (K a T' h' b k ⟨X', e', ⟨k1, hS2, hk2⟩, hW, hf, N, n1, C.trans hC, hx, hby⟩ E' hC y1 y2 y3 y4 hne hL)
theorem Pos.ldcK (P : Pos p l e R s m args below meth c code Z EL wl hS own vm0 T locs cells slots h) {index : Nat} {text : String} {n : Nat} (w : (Cond.stringLink own index text).before a0 Z = true) (wS : ∀ a ∈ Bundle.stringAtoms, a.before a0 Z = true) (hEL : EW Z a0 EL) (hmem : (own, index) ∈ EL) {vs : List Value} {z : Int32} (ht : (∀ c ∈ text.toList, c.toNat < 256) ∧ text.toList.map (fun c => Value.int (Jvm.Lit.byteI c.toNat.toUInt16)) = vs) (hz : ¬ z < 0) (hlz : z.toNatClampNeg = vs.length) (hn : 4 * text.toList.length ≤ n) (hbig : n ≤ 536870912) (hc : cells + 2 ≤ R.cells) (hl : slots + (n + 4) ≤ R.slots) (hd : decode code pc = .ok (.ldc index, 2)) (hp : pc + 2 = pc1)
    (K : ∀ (a : Addr) (T' : State) (h' : Heap) (b : Addr) (k : ClassId), Pos p l e R s m args below meth c code Z EL wl hS own T'.vm T' locs (cells + 2) (slots + (n + 4)) h' → Ext h h' → CHr Z EL vm0 h T'.vm h' → Exa Z h' a "java/lang/String" → Fld Z h' a "java/lang/String" "coder" "B" (.int 0) → Fld Z h' a "java/lang/String" "value" "[B" (.ref b) → Arv Z h' b k .byte z vs (.int 0) → (∀ x, Safe Z EL T'.vm h' x → x ≠ a ∧ x ≠ b) → Lit (s.setVm T'.vm) own index a → (s.setVm vm0).Warmed39 T'.vm → Go p.tables e below G (T'.setTop (mkF m pc1 ls (.ref a :: st)))) : Go p.tables e below G (T.setTop (mkF m pc ls st)) := by
  subst hp
  obtain ⟨X, eT, hsi, hZ, hown, N, n1, C, hx, hby⟩ := P
  obtain ⟨k0, q1, q2⟩ := hsi
  obtain ⟨a, T', h', k1, b, k, X', e', E', hS2, hk2, hW, hf, y1, y2, y3, y4, -, -, hC, hL, hne, stp⟩ := RoadKit.ldcCH (s := s.setVm vm0) (vm0 := vm0) X hx hZ hown w wS eT ((State.WarmedH.refl (s.setVm vm0)).since 0) (Nat.zero_le _) hEL hmem C.1 ht hz hlz (g := mkF m pc ls st) rfl (hb hby hd) hn hbig hc hl
  obtain ⟨r1, r2, r3, r4⟩ := rebS q1 q2 X' ⟨hS2.1, hS2.2.mono hk2⟩ E'.1 hZ hown
  exact Go.via stp (K a T' h' b k ⟨r1, e', ⟨_, r2, Nat.le_refl _⟩, r3, r4, N, n1, C.trans hC, hx, hby⟩ E' hC y1 y2 y3 y4 hne hL hS2.1)
theorem Pos.ldcA (P : Pos p l e R s m args below meth c code Z EL wl hS own vm0 T locs cells slots h) {index : Nat} {text : String} {a : Addr} (w : (Cond.stringLink own index text).before a0 Z = true) (L : Lit (s.setVm vm0) own index a) (hd : decode code pc = .ok (.ldc index, 2)) (hp : pc + 2 = pc1) (K : Go p.tables e below G (T.setTop (mkF m pc1 ls (.ref a :: st)))) : Go p.tables e below G (T.setTop (mkF m pc ls st)) := by
  subst hp; exact Go.via (RoadKit.ldcAgain P.1 P.q.2.1 P.2.2.2.1 P.2.2.2.2.1 w L (g := mkF m pc ls st) rfl (hb P.q.2.2 hd)) K
theorem Pos.newPE (P : Pos p l e R s m args below meth c code Z EL wl hS own vm0 T locs cells slots h) {aty : ArrayType} {n : Int32} {cap : Nat} {ad : String} (w : (Cond.arrayClass (newarray.typeOf aty)).before a0 Z = true) (had : "[" ++ (newarray.typeOf aty).toString = ad) (hn : ¬ n < 0) (hcap : n.toNatClampNeg ≤ cap) (hb8 : cap * 8 ≤ 536870912) (hc : cells + 1 ≤ R.cells) (hl : slots + cap ≤ R.slots) (hd : decode code pc = .ok (.newarray aty, 2)) (hp : pc + 2 = pc1) (K : ∀ (T' : State) (h' : Heap) (x : Addr) (k : ClassId), x = h.size → Pos p l e R s m args below meth c code Z EL wl hS own vm0 T' locs (cells + 1) (slots + cap) h' → Ext h h' → Arv Z h' x k (newarray.typeOf aty) n (List.replicate n.toNatClampNeg (defaultValue (newarray.typeOf aty))) (defaultValue (newarray.typeOf aty)) → Exa Z h' x ad → Go p.tables e below G (T'.setTop (mkF m pc1 ls (.ref x :: st)))) : Go p.tables e below G (T.setTop (mkF m pc ls (.int n :: st))) := by
  subst hp
  obtain ⟨T', h', k, X', e', E', A', Y', stp⟩ := RoadKit.newPE P.1 P.q.2.1 P.hz w P.heap (g := mkF m pc ls (.int n :: st)) rfl (hb P.q.2.2 hd) rfl hn hcap hb8 hc hl had
  exact Go.via stp (K T' h' _ k rfl (P.grown X' e' E') E' ((Arv.new A' hn).pad (pad_rep [] _ _)) Y')
theorem Pos.callS (P : Pos p l e R s m args below meth c code Z EL wl hS own vm0 T locs cells slots h) {index : Nat} {y : MethodName} {bytes : ByteArray} {maxL : Nat} {ret : Option FieldType} {as' : Array Value} {rc rs W : Nat} {Q : Option Value → Heap → List Loc → Prop} {argsL st0 : List Value} (w1 : (Cond.methodLink own index y).before a0 Z = true) (w2 : (Cond.static y).before a0 Z = true) (w3 : (Cond.initialized y.cls).before a0 Z = true) (w4 : (Cond.code y bytes maxL ret).before a0 Z = true) (hy : y.cls ≠ "java/lang/invoke/MethodHandle" ∧ y.cls ≠ "java/lang/invoke/VarHandle") (hK : Back l R p e below (s.setVm vm0) args y 3 W (fun A a => a = as' ∧ A.U.heap = h ∧ A.cells + rc ≤ R.cells ∧ A.slots + rs ≤ R.slots) (fun A _ v B => ∃ L, Q v B.U.heap L ∧ B.locs = A.locs ++ L ∧ B.cells = A.cells + rc ∧ B.slots = A.slots + rs)) (hlen : ∀ sig, parseMethodDescriptor y.desc = some sig → argsL.length = sig.parameters.length) (hst : st = argsL.reverse ++ st0) (has : argsL.toArray = as') (hW : (st0.map fun v => v.category).sum ≤ W) (hsize : ls.size = c.maxLocals) (hc : cells + rc ≤ R.cells) (hs : slots + rs ≤ R.slots) (hF : ∀ v h' L, Q v h' L → Frw wl hS.size L ∧ CHr Z EL vm0 h vm0 h') (hd : decode code pc = .ok (.invokestatic index, 3)) (hp : pc + 3 = pc1)
    (K : ∀ (v : Option Value) (T' : State) (h' : Heap) (L : List Loc), Q v h' L → Pos p l e R s m args below meth c code Z EL wl hS own vm0 T' (locs ++ L) (cells + rc) (slots + rs) h' → Go p.tables e below G (T'.setTop (mkF m pc1 ls (v.toList ++ st0)))) : Go p.tables e below G (T.setTop (mkF m pc ls st)) := by
  subst hp
  obtain ⟨v, vm₁, ⟨U, Lx, cx, sx⟩, -, X', ⟨L, hQ, l1, l2, l3⟩, stp⟩ := Jvm.LawKit.callS P.1 P.q.2.1 P.2.2.2.2.1 (mvT P.hz w1) (mvT P.hz w2) (mvT P.hz w3) (mvT P.hz w4) hy hK (g := mkF m pc ls st) rfl hsize (argsL := argsL) (rest := st0) hlen hst (by show 2 * 0 + _ ≤ _; omega) (hb P.q.2.2 hd) (fun _ _ => ⟨has, P.heap, hc, hs⟩)
  dsimp only [Pt.U, Pt.locs, Pt.cells, Pt.slots] at *
  subst l1 l2 l3
  exact Go.via stp (K v U _ L hQ (P.came X' (hF _ _ _ hQ).1 (hF _ _ _ hQ).2))
theorem Pos.callN (P : Pos p l e R s m args below meth c code Z EL wl hS own vm0 T locs cells slots h) {index : Nat} {y : MethodName} {bytes : ByteArray} {maxL : Nat} {x : Addr} {as' : Array Value} {rc rs W : Nat} {Q : Option Value → Heap → List Loc → Prop} {argsL st0 : List Value} (hy1 : y.name = "<init>") (w1 : (Cond.methodLink own index y).before a0 Z = true) (w2 : (Cond.instanceMethod y).before a0 Z = true) (w4 : (Cond.code y bytes maxL none).before a0 Z = true) (hy : y.cls ≠ "java/lang/invoke/MethodHandle" ∧ y.cls ≠ "java/lang/invoke/VarHandle") (hK : Back l R p e below (s.setVm vm0) args y 3 W (fun A a => a = as' ∧ A.U.heap = h ∧ A.cells + rc ≤ R.cells ∧ A.slots + rs ≤ R.slots) (fun A _ v B => ∃ L, Q v B.U.heap L ∧ B.locs = A.locs ++ L ∧ B.cells = A.cells + rc ∧ B.slots = A.slots + rs)) (hlen : ∀ sig, parseMethodDescriptor y.desc = some sig → argsL.length = sig.parameters.length) (hst : st = argsL.reverse ++ .ref x :: st0) (has : (.ref x :: argsL).toArray = as') (hW : (st0.map fun v => v.category).sum ≤ W) (hsize : ls.size = c.maxLocals) (hc : cells + rc ≤ R.cells) (hs : slots + rs ≤ R.slots) (hF : ∀ v h' L, Q v h' L → Frw wl hS.size L ∧ CHr Z EL vm0 h vm0 h') (hd : decode code pc = .ok (.invokespecial index, 3)) (hp : pc + 3 = pc1)
    (K : ∀ (v : Option Value) (T' : State) (h' : Heap) (L : List Loc), Q v h' L → Pos p l e R s m args below meth c code Z EL wl hS own vm0 T' (locs ++ L) (cells + rc) (slots + rs) h' → Go p.tables e below G (T'.setTop (mkF m pc1 ls (v.toList ++ st0)))) : Go p.tables e below G (T.setTop (mkF m pc ls st)) := by
  subst hp
  obtain ⟨v, vm₁, ⟨U, Lx, cx, sx⟩, -, X', ⟨L, hQ, l1, l2, l3⟩, stp⟩ := Stand.specialBack P.1 P.q.2.1 hy1 P.2.2.2.2.1 (mvT P.hz w1) (mvT P.hz w2) (mvT P.hz w4) hy hK (g := mkF m pc ls st) rfl hsize (Steps.refl _) (a := x) (argsL := argsL) (rest := st0) hlen hst (by show 2 * 0 + _ ≤ _; omega) (hb P.q.2.2 hd) (fun _ _ => ⟨has, P.heap, hc, hs⟩)
  dsimp only [Pt.U, Pt.locs, Pt.cells, Pt.slots] at *
  subst l1 l2 l3
  exact Go.tr stp (K v U _ L hQ (P.came X' (hF _ _ _ hQ).1 (hF _ _ _ hQ).2))
theorem Pos.callV (P : Pos p l e R s m args below meth c code Z EL wl hS own vm0 T locs cells slots h) {index : Nat} {y z : MethodName} {x : Addr} {C : String} {as' : Array Value} {rc rs W : Nat} {Q : Option Value → Heap → List Loc → Prop} {argsL st0 : List Value} (E : Exa Z h x C) (w1 : (Cond.methodLink own index y).before a0 Z = true) (w2 : (Cond.declares y).before a0 Z = true) (w3 : (Cond.selects C y z).before a0 Z = true) (w4 : (Cond.instanceMethod z).before a0 Z = true) (nf : NotFace (s.setVm vm0) y) (hy : y.cls ≠ "java/lang/invoke/MethodHandle" ∧ y.cls ≠ "java/lang/invoke/VarHandle") (hK : Back l R p e below (s.setVm vm0) args z 3 W (fun A a => a = as' ∧ A.U.heap = h ∧ A.cells + rc ≤ R.cells ∧ A.slots + rs ≤ R.slots) (fun A _ v B => ∃ L, Q v B.U.heap L ∧ B.locs = A.locs ++ L ∧ B.cells = A.cells + rc ∧ B.slots = A.slots + rs)) (hlen : ∀ sig, parseMethodDescriptor y.desc = some sig → argsL.length = sig.parameters.length) (hst : st = argsL.reverse ++ .ref x :: st0) (has : (.ref x :: argsL).toArray = as') (hW : (st0.map fun v => v.category).sum ≤ W) (hsize : ls.size = c.maxLocals) (hc : cells + rc ≤ R.cells) (hs : slots + rs ≤ R.slots) (hF : ∀ v h' L, Q v h' L → Frw wl hS.size L ∧ CHr Z EL vm0 h vm0 h') (hd : decode code pc = .ok (.invokevirtual index, 3)) (hp : pc + 3 = pc1)
    (K : ∀ (v : Option Value) (T' : State) (h' : Heap) (L : List Loc), Q v h' L → Pos p l e R s m args below meth c code Z EL wl hS own vm0 T' (locs ++ L) (cells + rc) (slots + rs) h' → Go p.tables e below G (T'.setTop (mkF m pc1 ls (v.toList ++ st0)))) : Go p.tables e below G (T.setTop (mkF m pc ls st)) := by
  subst hp
  obtain ⟨cq, kq, qa, qb, qc⟩ := isOf P.hz P.heap E
  obtain ⟨v, vm₁, ⟨U, Lx, cx, sx⟩, -, X', ⟨L, hQ, l1, l2, l3⟩, stp⟩ := Stand.virtualBack P.1 P.q.2.1 (y := y) (z := z) P.2.2.2.2.1 (mvT P.hz w1) (mvT P.hz w2) nf (mvT P.hz w3) (mvT P.hz w4) hy hK qa qc (g := mkF m pc ls st) rfl hsize (Steps.refl _) (argsL := argsL) (rest := st0) hlen hst (by show 2 * 0 + _ ≤ _; omega) (hb P.q.2.2 hd) (fun _ _ => ⟨has, P.heap, hc, hs⟩)
  dsimp only [Pt.U, Pt.locs, Pt.cells, Pt.slots] at *
  subst l1 l2 l3
  exact Go.tr stp (K v U _ L hQ (P.came X' (hF _ _ _ hQ).1 (hF _ _ _ hQ).2))
theorem Pos.callVU (P : Pos p l e R s m args below meth c code Z EL wl hS own vm0 T locs cells slots h) {index : Nat} {y z : MethodName} {x : Addr} {C owner : String} {as' : Array Value} {rc rs W : Nat} {Q : Option Value → Heap → List Loc → Prop} {argsL st0 : List Value} (E : Exa Z h x C) (w1 : (Cond.methodLink own index y).before a0 Z = true) (w2 : (Cond.sameMethod y.cls owner y.name y.desc).before a0 Z = true) (w5 : (Cond.declares ⟨owner, y.name, y.desc⟩).before a0 Z = true) (hy : owner ≠ "java/lang/invoke/MethodHandle" ∧ owner ≠ "java/lang/invoke/VarHandle") (w3 : (Cond.selects C y z).before a0 Z = true) (w4 : (Cond.instanceMethod z).before a0 Z = true) (hK : Back l R p e below (s.setVm vm0) args z 3 W (fun A a => a = as' ∧ A.U.heap = h ∧ A.cells + rc ≤ R.cells ∧ A.slots + rs ≤ R.slots) (fun A _ v B => ∃ L, Q v B.U.heap L ∧ B.locs = A.locs ++ L ∧ B.cells = A.cells + rc ∧ B.slots = A.slots + rs)) (hlen : ∀ sig, parseMethodDescriptor y.desc = some sig → argsL.length = sig.parameters.length) (hst : st = argsL.reverse ++ .ref x :: st0) (has : (.ref x :: argsL).toArray = as') (hW : (st0.map fun v => v.category).sum ≤ W) (hsize : ls.size = c.maxLocals) (hc : cells + rc ≤ R.cells) (hs : slots + rs ≤ R.slots) (hF : ∀ v h' L, Q v h' L → Frw wl hS.size L ∧ CHr Z EL vm0 h vm0 h') (hd : decode code pc = .ok (.invokevirtual index, 3)) (hp : pc + 3 = pc1)
    (K : ∀ (v : Option Value) (T' : State) (h' : Heap) (L : List Loc), Q v h' L → Pos p l e R s m args below meth c code Z EL wl hS own vm0 T' (locs ++ L) (cells + rc) (slots + rs) h' → Go p.tables e below G (T'.setTop (mkF m pc1 ls (v.toList ++ st0)))) : Go p.tables e below G (T.setTop (mkF m pc ls st)) := by
  subst hp
  obtain ⟨cq, kq, qa, qb, qc⟩ := isOf P.hz P.heap E
  obtain ⟨v, vm₁, ⟨U, Lx, cx, sx⟩, -, X', ⟨L, hQ, l1, l2, l3⟩, stp⟩ := Stand.virtualBackUp P.1 P.q.2.1 (x := y) (y := z) P.2.2.2.2.1 (mvT P.hz w1) (mvT P.hz w2) (mvT P.hz w5) hy (mvT P.hz w3) (mvT P.hz w4) hK qa qc (g := mkF m pc ls st) rfl hsize (Steps.refl _) (argsL := argsL) (rest := st0) hlen hst (by show 2 * 0 + _ ≤ _; omega) (hb P.q.2.2 hd) (fun _ _ => ⟨has, P.heap, hc, hs⟩)
  dsimp only [Pt.U, Pt.locs, Pt.cells, Pt.slots] at *
  subst l1 l2 l3
  exact Go.tr stp (K v U _ L hQ (P.came X' (hF _ _ _ hQ).1 (hF _ _ _ hQ).2))
theorem Pos.callI (P : Pos p l e R s m args below meth c code Z EL wl hS own vm0 T locs cells slots h) {index count : Nat} {xi y : MethodName} {x : Addr} {C : String} {as' : Array Value} {rc rs W : Nat} {Q : Option Value → Heap → List Loc → Prop} {argsL st0 : List Value} (E : Exa Z h x C) (w1 : (Cond.methodLink own index xi).before a0 Z = true) (w2 : (Cond.declares xi).before a0 Z = true) (w3 : (Cond.interfaceMethod xi.cls xi.cls xi.name xi.desc).before a0 Z = true) (h3 : ((Cond.interfaceMethod xi.cls xi.cls xi.name xi.desc).onTables && (Cond.interfaceMethod xi.cls xi.cls xi.name xi.desc).keepsFace) = true) (w4 : (Cond.selects C xi y).before a0 Z = true) (w5 : (Cond.instanceMethod y).before a0 Z = true) (w6 : (Cond.publicMethod y).before a0 Z = true) (w7 : (Cond.unhidden C xi.name xi.desc).before a0 Z = true) (w8 : (Cond.castable C xi.cls).before a0 Z = true) (hy : xi.cls ≠ "java/lang/invoke/MethodHandle" ∧ xi.cls ≠ "java/lang/invoke/VarHandle") (hK : Back l R p e below (s.setVm vm0) args y 5 W (fun A a => a = as' ∧ A.U.heap = h ∧ A.cells + rc ≤ R.cells ∧ A.slots + rs ≤ R.slots) (fun A _ v B => ∃ L, Q v B.U.heap L ∧ B.locs = A.locs ++ L ∧ B.cells = A.cells + rc ∧ B.slots = A.slots + rs)) (hlen : ∀ sig, parseMethodDescriptor xi.desc = some sig → argsL.length = sig.parameters.length) (hst : st = argsL.reverse ++ .ref x :: st0) (has : (.ref x :: argsL).toArray = as') (hW : (st0.map fun v => v.category).sum ≤ W) (hsize : ls.size = c.maxLocals) (hc : cells + rc ≤ R.cells) (hs : slots + rs ≤ R.slots) (hF : ∀ v h' L, Q v h' L → Frw wl hS.size L ∧ CHr Z EL vm0 h vm0 h') (hd : decode code pc = .ok (.invokeinterface index count, 5)) (hp : pc + 5 = pc1)
    (K : ∀ (v : Option Value) (T' : State) (h' : Heap) (L : List Loc), Q v h' L → Pos p l e R s m args below meth c code Z EL wl hS own vm0 T' (locs ++ L) (cells + rc) (slots + rs) h' → Go p.tables e below G (T'.setTop (mkF m pc1 ls (v.toList ++ st0)))) : Go p.tables e below G (T.setTop (mkF m pc ls st)) := by
  subst hp
  obtain ⟨cq, kq, qa, qb, qc⟩ := isOf P.hz P.heap E
  obtain ⟨v, vm₁, ⟨U, Lx, cx, sx⟩, -, X', ⟨L, hQ, l1, l2, l3⟩, stp⟩ := Stand.interfaceBack P.1 P.q.2.1 P.2.2.2.2.1 (mvT P.hz w1) (mvT P.hz w2) (mvT P.hz w3 h3) (mvT P.hz w4) (mvT P.hz w5) (mvT P.hz w6) (mvT P.hz w7) (mvT P.hz w8) hy hK qa qb qc (g := mkF m pc ls st) rfl hsize (Steps.refl _) (argsL := argsL) (rest := st0) hlen hst (by show 2 * 0 + _ ≤ _; omega) (hb P.q.2.2 hd) (fun _ _ => ⟨has, P.heap, hc, hs⟩)
  dsimp only [Pt.U, Pt.locs, Pt.cells, Pt.slots] at *
  subst l1 l2 l3
  exact Go.tr stp (K v U _ L hQ (P.came X' (hF _ _ _ hQ).1 (hF _ _ _ hQ).2))
theorem Pos.callU (P : Pos p l e R s m args below meth c code Z EL wl hS own vm0 T locs cells slots h) {index : Nat} {y : MethodName} {bytes : ByteArray} {maxL : Nat} {ret : Option FieldType} {x : Addr} {C : String} {as' : Array Value} {rc rs W : Nat} {Q : Option Value → Heap → List Loc → Prop} {argsL st0 : List Value} (E : Ins Z h x C true) (w1 : (Cond.methodLink own index y).before a0 Z = true) (w2 : (Cond.sameMethod y.cls y.cls y.name y.desc).before a0 Z = true) (w3 : (Cond.instanceMethod y).before a0 Z = true) (w4 : (Cond.superclass own y.cls).before a0 Z = true) (hn : y.name ≠ "<init>") (wc : (Cond.code y bytes maxL ret).before a0 Z = true) (hK : Back l R p e below (s.setVm vm0) args y 3 W (fun A a => a = as' ∧ A.U.heap = h ∧ A.cells + rc ≤ R.cells ∧ A.slots + rs ≤ R.slots) (fun A _ v B => ∃ L, Q v B.U.heap L ∧ B.locs = A.locs ++ L ∧ B.cells = A.cells + rc ∧ B.slots = A.slots + rs)) (hlen : ∀ sig, parseMethodDescriptor y.desc = some sig → argsL.length = sig.parameters.length) (hst : st = argsL.reverse ++ .ref x :: st0) (has : (.ref x :: argsL).toArray = as') (hW : (st0.map fun v => v.category).sum ≤ W) (hsize : ls.size = c.maxLocals) (hc : cells + rc ≤ R.cells) (hs : slots + rs ≤ R.slots) (hF : ∀ v h' L, Q v h' L → Frw wl hS.size L ∧ CHr Z EL vm0 h vm0 h') (hd : decode code pc = .ok (.invokespecial index, 3)) (hp : pc + 3 = pc1)
    (K : ∀ (v : Option Value) (T' : State) (h' : Heap) (L : List Loc), Q v h' L → Pos p l e R s m args below meth c code Z EL wl hS own vm0 T' (locs ++ L) (cells + rc) (slots + rs) h' → Go p.tables e below G (T'.setTop (mkF m pc1 ls (v.toList ++ st0)))) : Go p.tables e below G (T.setTop (mkF m pc ls st)) := by
  subst hp
  obtain ⟨v, vm₁, ⟨U, Lx, cx, sx⟩, -, X', ⟨L, hQ, l1, l2, l3⟩, stp⟩ := RoadKit.superBack P.1 P.q.2.1 P.hz P.2.2.2.2.1 w1 w2 w3 w4 hn hK P.heap E (g := mkF m pc ls st) rfl hsize wc (argsL := argsL) (rest := st0) hlen hst (by show 2 * 0 + _ ≤ _; omega) (hb P.q.2.2 hd) (fun _ _ => ⟨has, P.heap, hc, hs⟩)
  dsimp only [Pt.U, Pt.locs, Pt.cells, Pt.slots] at *
  subst l1 l2 l3
  exact Go.tr stp (K v U _ L hQ (P.came X' (hF _ _ _ hQ).1 (hF _ _ _ hQ).2))
theorem Pos.callSW (P : Pos p l e R s m args below meth c code Z EL wl hS own vm0 T locs cells slots h) {index : Nat} {y : MethodName} {bytes : ByteArray} {maxL : Nat} {ret : Option FieldType} {as' : Array Value} {rc rs W : Nat} {Q : Option Value → Heap → List Loc → Prop} {argsL st0 : List Value} (w1 : (Cond.methodLink own index y).before a0 Z = true) (w2 : (Cond.static y).before a0 Z = true) (w3 : (Cond.initialized y.cls).before a0 Z = true) (w4 : (Cond.code y bytes maxL ret).before a0 Z = true) (hy : y.cls ≠ "java/lang/invoke/MethodHandle" ∧ y.cls ≠ "java/lang/invoke/VarHandle") (hK : BackS l R p e below (s.setVm vm0) args y 3 W (fun A a => a = as' ∧ A.U.heap = h ∧ A.cells + rc ≤ R.cells ∧ A.slots + rs ≤ R.slots) (fun A _ v B => ∃ L, Q v B.U.heap L ∧ B.locs = A.locs ++ L ∧ B.cells = A.cells + rc ∧ B.slots = A.slots + rs ∧ CHr Z EL vm0 h B.U.vm B.U.heap)) (hlen : ∀ sig, parseMethodDescriptor y.desc = some sig → argsL.length = sig.parameters.length) (hst : st = argsL.reverse ++ st0) (has : argsL.toArray = as') (hW : (st0.map fun v => v.category).sum ≤ W) (hsize : ls.size = c.maxLocals) (hc : cells + rc ≤ R.cells) (hs : slots + rs ≤ R.slots) (hF : ∀ v h' L, Q v h' L → Frw wl hS.size L) (hd : decode code pc = .ok (.invokestatic index, 3)) (hp : pc + 3 = pc1)
    (K : ∀ (v : Option Value) (T' : State) (h' : Heap) (L : List Loc), Q v h' L → Pos p l e R s m args below meth c code Z EL wl hS own T'.vm T' (locs ++ L) (cells + rc) (slots + rs) h' → CHr Z EL vm0 h T'.vm h' → Go p.tables e below G (T'.setTop (mkF m pc1 ls (v.toList ++ st0)))) : Go p.tables e below G (T.setTop (mkF m pc ls st)) := by
  subst hp
  obtain ⟨v, vm₁, ⟨U, Lx, cx, sx⟩, -, X', hS', hgr, ⟨L, hQ, l1, l2, l3, hC⟩, stp⟩ := RoadKit.callSS P.1 P.q.2.1 P.2.2.2.2.1 (mvT P.hz w1) (mvT P.hz w2) (mvT P.hz w3) (mvT P.hz w4) hy hK (g := mkF m pc ls st) rfl hsize (argsL := argsL) (rest := st0) hlen hst (by show 2 * 0 + _ ≤ _; omega) (hb P.q.2.2 hd) (fun _ _ => ⟨has, P.heap, hc, hs⟩)
  dsimp only [Pt.U, Pt.locs, Pt.cells, Pt.slots] at *
  subst l1 l2 l3
  rw [P.heap] at hgr
  exact Go.tr stp (K v U _ L hQ (P.cameW X' hS' hgr (hF _ _ _ hQ) hC) hC)
theorem Pos.callNW (P : Pos p l e R s m args below meth c code Z EL wl hS own vm0 T locs cells slots h) {index : Nat} {y : MethodName} {bytes : ByteArray} {maxL : Nat} {x : Addr} {as' : Array Value} {rc rs W : Nat} {Q : Option Value → Heap → List Loc → Prop} {argsL st0 : List Value} (hy1 : y.name = "<init>") (w1 : (Cond.methodLink own index y).before a0 Z = true) (w2 : (Cond.instanceMethod y).before a0 Z = true) (w4 : (Cond.code y bytes maxL none).before a0 Z = true) (hy : y.cls ≠ "java/lang/invoke/MethodHandle" ∧ y.cls ≠ "java/lang/invoke/VarHandle") (hK : BackS l R p e below (s.setVm vm0) args y 3 W (fun A a => a = as' ∧ A.U.heap = h ∧ A.cells + rc ≤ R.cells ∧ A.slots + rs ≤ R.slots) (fun A _ v B => ∃ L, Q v B.U.heap L ∧ B.locs = A.locs ++ L ∧ B.cells = A.cells + rc ∧ B.slots = A.slots + rs ∧ CHr Z EL vm0 h B.U.vm B.U.heap)) (hlen : ∀ sig, parseMethodDescriptor y.desc = some sig → argsL.length = sig.parameters.length) (hst : st = argsL.reverse ++ .ref x :: st0) (has : (.ref x :: argsL).toArray = as') (hW : (st0.map fun v => v.category).sum ≤ W) (hsize : ls.size = c.maxLocals) (hc : cells + rc ≤ R.cells) (hs : slots + rs ≤ R.slots) (hF : ∀ v h' L, Q v h' L → Frw wl hS.size L) (hd : decode code pc = .ok (.invokespecial index, 3)) (hp : pc + 3 = pc1)
    (K : ∀ (v : Option Value) (T' : State) (h' : Heap) (L : List Loc), Q v h' L → Pos p l e R s m args below meth c code Z EL wl hS own T'.vm T' (locs ++ L) (cells + rc) (slots + rs) h' → CHr Z EL vm0 h T'.vm h' → Go p.tables e below G (T'.setTop (mkF m pc1 ls (v.toList ++ st0)))) : Go p.tables e below G (T.setTop (mkF m pc ls st)) := by
  subst hp
  obtain ⟨v, vm₁, ⟨U, Lx, cx, sx⟩, -, X', hS', hgr, ⟨L, hQ, l1, l2, l3, hC⟩, stp⟩ := Stand.specialBackS P.1 P.q.2.1 hy1 P.2.2.2.2.1 (mvT P.hz w1) (mvT P.hz w2) (mvT P.hz w4) hy hK (g := mkF m pc ls st) rfl hsize (Steps.refl _) (a := x) (argsL := argsL) (rest := st0) hlen hst (by show 2 * 0 + _ ≤ _; omega) (hb P.q.2.2 hd) (fun _ _ => ⟨has, P.heap, hc, hs⟩)
  dsimp only [Pt.U, Pt.locs, Pt.cells, Pt.slots] at *
  subst l1 l2 l3
  rw [P.heap] at hgr
  exact Go.tr stp (K v U _ L hQ (P.cameW X' hS' hgr (hF _ _ _ hQ) hC) hC)
theorem Pos.callVW (P : Pos p l e R s m args below meth c code Z EL wl hS own vm0 T locs cells slots h) {index : Nat} {y z : MethodName} {x : Addr} {C : String} {as' : Array Value} {rc rs W : Nat} {Q : Option Value → Heap → List Loc → Prop} {argsL st0 : List Value} (E : Exa Z h x C) (w1 : (Cond.methodLink own index y).before a0 Z = true) (w2 : (Cond.declares y).before a0 Z = true) (w3 : (Cond.selects C y z).before a0 Z = true) (w4 : (Cond.instanceMethod z).before a0 Z = true) (nf : NotFace (s.setVm vm0) y) (hy : y.cls ≠ "java/lang/invoke/MethodHandle" ∧ y.cls ≠ "java/lang/invoke/VarHandle") (hK : BackS l R p e below (s.setVm vm0) args z 3 W (fun A a => a = as' ∧ A.U.heap = h ∧ A.cells + rc ≤ R.cells ∧ A.slots + rs ≤ R.slots) (fun A _ v B => ∃ L, Q v B.U.heap L ∧ B.locs = A.locs ++ L ∧ B.cells = A.cells + rc ∧ B.slots = A.slots + rs ∧ CHr Z EL vm0 h B.U.vm B.U.heap)) (hlen : ∀ sig, parseMethodDescriptor y.desc = some sig → argsL.length = sig.parameters.length) (hst : st = argsL.reverse ++ .ref x :: st0) (has : (.ref x :: argsL).toArray = as') (hW : (st0.map fun v => v.category).sum ≤ W) (hsize : ls.size = c.maxLocals) (hc : cells + rc ≤ R.cells) (hs : slots + rs ≤ R.slots) (hF : ∀ v h' L, Q v h' L → Frw wl hS.size L) (hd : decode code pc = .ok (.invokevirtual index, 3)) (hp : pc + 3 = pc1)
    (K : ∀ (v : Option Value) (T' : State) (h' : Heap) (L : List Loc), Q v h' L → Pos p l e R s m args below meth c code Z EL wl hS own T'.vm T' (locs ++ L) (cells + rc) (slots + rs) h' → CHr Z EL vm0 h T'.vm h' → Go p.tables e below G (T'.setTop (mkF m pc1 ls (v.toList ++ st0)))) : Go p.tables e below G (T.setTop (mkF m pc ls st)) := by
  subst hp
  obtain ⟨cq, kq, qa, qb, qc⟩ := isOf P.hz P.heap E
  obtain ⟨v, vm₁, ⟨U, Lx, cx, sx⟩, -, X', hS', hgr, ⟨L, hQ, l1, l2, l3, hC⟩, stp⟩ := Stand.virtualBackS P.1 P.q.2.1 (y := y) (z := z) P.2.2.2.2.1 (mvT P.hz w1) (mvT P.hz w2) nf (mvT P.hz w3) (mvT P.hz w4) hy hK qa qc (g := mkF m pc ls st) rfl hsize (Steps.refl _) (argsL := argsL) (rest := st0) hlen hst (by show 2 * 0 + _ ≤ _; omega) (hb P.q.2.2 hd) (fun _ _ => ⟨has, P.heap, hc, hs⟩)
  dsimp only [Pt.U, Pt.locs, Pt.cells, Pt.slots] at *
  subst l1 l2 l3
  rw [P.heap] at hgr
  exact Go.tr stp (K v U _ L hQ (P.cameW X' hS' hgr (hF _ _ _ hQ) hC) hC)
theorem Pos.callVUW (P : Pos p l e R s m args below meth c code Z EL wl hS own vm0 T locs cells slots h) {index : Nat} {y z : MethodName} {x : Addr} {C owner : String} {as' : Array Value} {rc rs W : Nat} {Q : Option Value → Heap → List Loc → Prop} {argsL st0 : List Value} (E : Exa Z h x C) (w1 : (Cond.methodLink own index y).before a0 Z = true) (w2 : (Cond.sameMethod y.cls owner y.name y.desc).before a0 Z = true) (w5 : (Cond.declares ⟨owner, y.name, y.desc⟩).before a0 Z = true) (hy : owner ≠ "java/lang/invoke/MethodHandle" ∧ owner ≠ "java/lang/invoke/VarHandle") (w3 : (Cond.selects C y z).before a0 Z = true) (w4 : (Cond.instanceMethod z).before a0 Z = true) (hK : BackS l R p e below (s.setVm vm0) args z 3 W (fun A a => a = as' ∧ A.U.heap = h ∧ A.cells + rc ≤ R.cells ∧ A.slots + rs ≤ R.slots) (fun A _ v B => ∃ L, Q v B.U.heap L ∧ B.locs = A.locs ++ L ∧ B.cells = A.cells + rc ∧ B.slots = A.slots + rs ∧ CHr Z EL vm0 h B.U.vm B.U.heap)) (hlen : ∀ sig, parseMethodDescriptor y.desc = some sig → argsL.length = sig.parameters.length) (hst : st = argsL.reverse ++ .ref x :: st0) (has : (.ref x :: argsL).toArray = as') (hW : (st0.map fun v => v.category).sum ≤ W) (hsize : ls.size = c.maxLocals) (hc : cells + rc ≤ R.cells) (hs : slots + rs ≤ R.slots) (hF : ∀ v h' L, Q v h' L → Frw wl hS.size L) (hd : decode code pc = .ok (.invokevirtual index, 3)) (hp : pc + 3 = pc1)
    (K : ∀ (v : Option Value) (T' : State) (h' : Heap) (L : List Loc), Q v h' L → Pos p l e R s m args below meth c code Z EL wl hS own T'.vm T' (locs ++ L) (cells + rc) (slots + rs) h' → CHr Z EL vm0 h T'.vm h' → Go p.tables e below G (T'.setTop (mkF m pc1 ls (v.toList ++ st0)))) : Go p.tables e below G (T.setTop (mkF m pc ls st)) := by
  subst hp
  obtain ⟨cq, kq, qa, qb, qc⟩ := isOf P.hz P.heap E
  obtain ⟨v, vm₁, ⟨U, Lx, cx, sx⟩, -, X', hS', hgr, ⟨L, hQ, l1, l2, l3, hC⟩, stp⟩ := Stand.virtualBackUpS P.1 P.q.2.1 (x := y) (y := z) P.2.2.2.2.1 (mvT P.hz w1) (mvT P.hz w2) (mvT P.hz w5) hy (mvT P.hz w3) (mvT P.hz w4) hK qa qc (g := mkF m pc ls st) rfl hsize (Steps.refl _) (argsL := argsL) (rest := st0) hlen hst (by show 2 * 0 + _ ≤ _; omega) (hb P.q.2.2 hd) (fun _ _ => ⟨has, P.heap, hc, hs⟩)
  dsimp only [Pt.U, Pt.locs, Pt.cells, Pt.slots] at *
  subst l1 l2 l3
  rw [P.heap] at hgr
  exact Go.tr stp (K v U _ L hQ (P.cameW X' hS' hgr (hF _ _ _ hQ) hC) hC)
theorem Pos.callIW (P : Pos p l e R s m args below meth c code Z EL wl hS own vm0 T locs cells slots h) {index count : Nat} {xi y : MethodName} {x : Addr} {C : String} {as' : Array Value} {rc rs W : Nat} {Q : Option Value → Heap → List Loc → Prop} {argsL st0 : List Value} (E : Exa Z h x C) (w1 : (Cond.methodLink own index xi).before a0 Z = true) (w2 : (Cond.declares xi).before a0 Z = true) (w3 : (Cond.interfaceMethod xi.cls xi.cls xi.name xi.desc).before a0 Z = true) (h3 : ((Cond.interfaceMethod xi.cls xi.cls xi.name xi.desc).onTables && (Cond.interfaceMethod xi.cls xi.cls xi.name xi.desc).keepsFace) = true) (w4 : (Cond.selects C xi y).before a0 Z = true) (w5 : (Cond.instanceMethod y).before a0 Z = true) (w6 : (Cond.publicMethod y).before a0 Z = true) (w7 : (Cond.unhidden C xi.name xi.desc).before a0 Z = true) (w8 : (Cond.castable C xi.cls).before a0 Z = true) (hy : xi.cls ≠ "java/lang/invoke/MethodHandle" ∧ xi.cls ≠ "java/lang/invoke/VarHandle") (hK : BackS l R p e below (s.setVm vm0) args y 5 W (fun A a => a = as' ∧ A.U.heap = h ∧ A.cells + rc ≤ R.cells ∧ A.slots + rs ≤ R.slots) (fun A _ v B => ∃ L, Q v B.U.heap L ∧ B.locs = A.locs ++ L ∧ B.cells = A.cells + rc ∧ B.slots = A.slots + rs ∧ CHr Z EL vm0 h B.U.vm B.U.heap)) (hlen : ∀ sig, parseMethodDescriptor xi.desc = some sig → argsL.length = sig.parameters.length) (hst : st = argsL.reverse ++ .ref x :: st0) (has : (.ref x :: argsL).toArray = as') (hW : (st0.map fun v => v.category).sum ≤ W) (hsize : ls.size = c.maxLocals) (hc : cells + rc ≤ R.cells) (hs : slots + rs ≤ R.slots) (hF : ∀ v h' L, Q v h' L → Frw wl hS.size L) (hd : decode code pc = .ok (.invokeinterface index count, 5)) (hp : pc + 5 = pc1)
    (K : ∀ (v : Option Value) (T' : State) (h' : Heap) (L : List Loc), Q v h' L → Pos p l e R s m args below meth c code Z EL wl hS own T'.vm T' (locs ++ L) (cells + rc) (slots + rs) h' → CHr Z EL vm0 h T'.vm h' → Go p.tables e below G (T'.setTop (mkF m pc1 ls (v.toList ++ st0)))) : Go p.tables e below G (T.setTop (mkF m pc ls st)) := by
  subst hp
  obtain ⟨cq, kq, qa, qb, qc⟩ := isOf P.hz P.heap E
  obtain ⟨v, vm₁, ⟨U, Lx, cx, sx⟩, -, X', hS', hgr, ⟨L, hQ, l1, l2, l3, hC⟩, stp⟩ := Stand.interfaceBackS P.1 P.q.2.1 P.2.2.2.2.1 (mvT P.hz w1) (mvT P.hz w2) (mvT P.hz w3 h3) (mvT P.hz w4) (mvT P.hz w5) (mvT P.hz w6) (mvT P.hz w7) (mvT P.hz w8) hy hK qa qb qc (g := mkF m pc ls st) rfl hsize (Steps.refl _) (argsL := argsL) (rest := st0) hlen hst (by show 2 * 0 + _ ≤ _; omega) (hb P.q.2.2 hd) (fun _ _ => ⟨has, P.heap, hc, hs⟩)
  dsimp only [Pt.U, Pt.locs, Pt.cells, Pt.slots] at *
  subst l1 l2 l3
  rw [P.heap] at hgr
  exact Go.tr stp (K v U _ L hQ (P.cameW X' hS' hgr (hF _ _ _ hQ) hC) hC)
/-- what a body leaves, narrow: nothing interned -/
def GN (s : State) (Q : Option Value → Heap → List Loc → Prop) (rm : Room) (o : Outcome) (U : State) : Prop := ∃ v L, o = .returned v ∧ Q v U.heap L ∧ FrameEnd s o U L rm.cells rm.slots
/-- wide -/
def GW (s : State) (Z : State) (EL : List (String × Nat)) (h0 : Heap) (Q : Option Value → Heap → List Loc → Prop) (rm : Room) (o : Outcome) (U : State) : Prop := ∃ v L, o = .returned v ∧ Q v U.heap L ∧ CHr Z EL s.vm h0 U.vm U.heap ∧ ReturnedEndW s o U L rm.cells rm.slots
theorem Pos.endN {Q : Option Value → Heap → List Loc → Prop} {v : Option Value} (P : Pos p l e R s m args below meth c code Z EL wl hS own s.vm T locs cells slots h) (hlk : meth.locks = false) (hv : meth.sig.returnType = none → v = none) (hc : cells ≤ R.cells) (hs : slots ≤ R.slots) (hQ : Q v h locs) {g : JFrame}
    (stp : ∀ fs, (∀ (f : JFrame) (acts : List Action), f.method = m → f.locked = none → f.entered = [] → (doReturn e (T.setTop f) acts v).1 = T.setFrames fs) → Steps p.tables e below (T.setTop g) (T.setFrames fs)) : Go p.tables e below (GN s Q R) (T.setTop g) := by
  obtain ⟨fs, hr, hrun, hended, hW, hsame⟩ := P.1.leave (v := v) hv hlk
  refine ⟨_, _, stp fs hr, hrun, hended, v, locs, rfl, ?_, ⟨_, rfl⟩, hW, hsame.mono hc hs⟩
  have : (T.setFrames fs).heap = h := P.heap
  rw [this]; exact hQ
theorem Pos.endW {Q : Option Value → Heap → List Loc → Prop} {v : Option Value} (P : Pos p l e R s m args below meth c code Z EL wl hS own vm0 T locs cells slots h) (hEL : EW Z a0 EL) (hlk : meth.locks = false) (hv : meth.sig.returnType = none → v = none) (hc : cells ≤ R.cells) (hs : slots ≤ R.slots) (hQ : Q v h locs) {g : JFrame}
    (stp : ∀ fs, (∀ (f : JFrame) (acts : List Action), f.method = m → f.locked = none → f.entered = [] → (doReturn e (T.setTop f) acts v).1 = T.setFrames fs) → Steps p.tables e below (T.setTop g) (T.setFrames fs)) : Go p.tables e below (GW s Z EL hS Q R) (T.setTop g) := by
  obtain ⟨X, eT, ⟨k0, q1, q2⟩, hZ, hown, N, n1, C, hx, hby⟩ := P
  have X2 := X.mono hc hs
  obtain ⟨fs, hr, hrun, hended, hEnd⟩ := X2.leaveW q1 (by rw [eT]; exact q2) (v := v) hv hlk
  have hh : (T.setFrames fs).heap = h := eT
  refine ⟨_, _, stp fs hr, hrun, hended, v, locs, rfl, by rw [hh]; exact hQ, ?_, hEnd⟩
  rw [hh]; show CHr Z EL s.vm hS T.vm h; exact C.trans (CHv.at X hZ hEL C.1)
theorem Pos.retN {Q : Option Value → Heap → List Loc → Prop} (P : Pos p l e R s m args below meth c code Z EL wl hS own s.vm T locs cells slots h) (hlk : meth.locks = false) (hret : meth.sig.returnType = none) (hd : decode code pc = .ok (.return_, 1)) (hc : cells ≤ R.cells) (hs : slots ≤ R.slots) (hQ : Q none h locs) : Go p.tables e below (GN s Q R) (T.setTop (mkF m pc ls [])) :=
  P.endN hlk (fun _ => rfl) hc hs hQ fun fs hr => P.1.returnOut P.q.2.1 hret (hb P.q.2.2 hd) hr
theorem Pos.retIN {Q : Option Value → Heap → List Loc → Prop} (P : Pos p l e R s m args below meth c code Z EL wl hS own s.vm T locs cells slots h) (hlk : meth.locks = false) (hret : meth.sig.returnType = some .int) {z : Int32} (hd : decode code pc = .ok (.ireturn, 1)) (hc : cells ≤ R.cells) (hs : slots ≤ R.slots) (hQ : Q (some (.int z)) h locs) : Go p.tables e below (GN s Q R) (T.setTop (mkF m pc ls (.int z :: st))) :=
  P.endN hlk (fun q => by rw [hret] at q; cases q) hc hs hQ fun fs hr => retOut P.1 P.q.2.1 hret rfl (Or.inl ⟨rfl, Or.inl rfl, z, rfl⟩) (hb P.q.2.2 hd) hr
theorem Pos.retVN {Q : Option Value → Heap → List Loc → Prop} (P : Pos p l e R s m args below meth c code Z EL wl hS own s.vm T locs cells slots h) (hlk : meth.locks = false) {t : FieldType} (hret : meth.sig.returnType = some t) (ht : t = .boolean ∨ t = .byte ∨ t = .char ∨ t = .short) {z : Int32} (hd : decode code pc = .ok (.ireturn, 1)) (hc : cells ≤ R.cells) (hs : slots ≤ R.slots) (hQ : Q (some (.int (nar t z))) h locs) : Go p.tables e below (GN s Q R) (T.setTop (mkF m pc ls (.int z :: st))) :=
  P.endN hlk (fun q => by rw [hret] at q; cases q) hc hs hQ fun fs hr => RoadKit.retN P.1 P.q.2.1 hret ht (hb P.q.2.2 hd) hr
theorem Pos.retAN {Q : Option Value → Heap → List Loc → Prop} (P : Pos p l e R s m args below meth c code Z EL wl hS own s.vm T locs cells slots h) (hlk : meth.locks = false) {t : FieldType} (hret : meth.sig.returnType = some t) (ht : t.isReference = true) {v : Value} (hv : v.isRef = true) (hn : narrow t v = v) (hd : decode code pc = .ok (.areturn, 1)) (hc : cells ≤ R.cells) (hs : slots ≤ R.slots) (hQ : Q (some v) h locs) : Go p.tables e below (GN s Q R) (T.setTop (mkF m pc ls (v :: st))) :=
  P.endN hlk (fun q => by rw [hret] at q; cases q) hc hs hQ fun fs hr => retOut P.1 P.q.2.1 hret hn (Or.inr (Or.inr (Or.inr (Or.inr ⟨rfl, ht, hv⟩)))) (hb P.q.2.2 hd) hr
theorem Pos.retDN {Q : Option Value → Heap → List Loc → Prop} (P : Pos p l e R s m args below meth c code Z EL wl hS own s.vm T locs cells slots h) (hlk : meth.locks = false) (hret : meth.sig.returnType = some .double) {z : UInt64} (hd : decode code pc = .ok (.dreturn, 1)) (hc : cells ≤ R.cells) (hs : slots ≤ R.slots) (hQ : Q (some (.double z)) h locs) : Go p.tables e below (GN s Q R) (T.setTop (mkF m pc ls (.double z :: st))) :=
  P.endN hlk (fun q => by rw [hret] at q; cases q) hc hs hQ fun fs hr => retOut P.1 P.q.2.1 hret rfl (Or.inr (Or.inr (Or.inl ⟨rfl, rfl, z, rfl⟩))) (hb P.q.2.2 hd) hr
theorem Pos.retLN {Q : Option Value → Heap → List Loc → Prop} (P : Pos p l e R s m args below meth c code Z EL wl hS own s.vm T locs cells slots h) (hlk : meth.locks = false) (hret : meth.sig.returnType = some .long) {z : Int64} (hd : decode code pc = .ok (.lreturn, 1)) (hc : cells ≤ R.cells) (hs : slots ≤ R.slots) (hQ : Q (some (.long z)) h locs) : Go p.tables e below (GN s Q R) (T.setTop (mkF m pc ls (.long z :: st))) :=
  P.endN hlk (fun q => by rw [hret] at q; cases q) hc hs hQ fun fs hr => retOut P.1 P.q.2.1 hret rfl (Or.inr (Or.inl ⟨rfl, rfl, z, rfl⟩)) (hb P.q.2.2 hd) hr
theorem Pos.retFN {Q : Option Value → Heap → List Loc → Prop} (P : Pos p l e R s m args below meth c code Z EL wl hS own s.vm T locs cells slots h) (hlk : meth.locks = false) (hret : meth.sig.returnType = some .float) {z : UInt32} (hd : decode code pc = .ok (.freturn, 1)) (hc : cells ≤ R.cells) (hs : slots ≤ R.slots) (hQ : Q (some (.float z)) h locs) : Go p.tables e below (GN s Q R) (T.setTop (mkF m pc ls (.float z :: st))) :=
  P.endN hlk (fun q => by rw [hret] at q; cases q) hc hs hQ fun fs hr => retOut P.1 P.q.2.1 hret rfl (Or.inr (Or.inr (Or.inr (Or.inl ⟨rfl, rfl, z, rfl⟩)))) (hb P.q.2.2 hd) hr
theorem Pos.retW {Q : Option Value → Heap → List Loc → Prop} (P : Pos p l e R s m args below meth c code Z EL wl hS own vm0 T locs cells slots h) (hEL : EW Z a0 EL) (hlk : meth.locks = false) (hret : meth.sig.returnType = none) (hd : decode code pc = .ok (.return_, 1)) (hc : cells ≤ R.cells) (hs : slots ≤ R.slots) (hQ : Q none h locs) : Go p.tables e below (GW s Z EL hS Q R) (T.setTop (mkF m pc ls [])) :=
  P.endW hEL hlk (fun _ => rfl) hc hs hQ fun fs hr => P.1.returnOut P.q.2.1 hret (hb P.q.2.2 hd) hr
theorem Pos.retIW {Q : Option Value → Heap → List Loc → Prop} (P : Pos p l e R s m args below meth c code Z EL wl hS own vm0 T locs cells slots h) (hEL : EW Z a0 EL) (hlk : meth.locks = false) (hret : meth.sig.returnType = some .int) {z : Int32} (hd : decode code pc = .ok (.ireturn, 1)) (hc : cells ≤ R.cells) (hs : slots ≤ R.slots) (hQ : Q (some (.int z)) h locs) : Go p.tables e below (GW s Z EL hS Q R) (T.setTop (mkF m pc ls (.int z :: st))) :=
  P.endW hEL hlk (fun q => by rw [hret] at q; cases q) hc hs hQ fun fs hr => retOut P.1 P.q.2.1 hret rfl (Or.inl ⟨rfl, Or.inl rfl, z, rfl⟩) (hb P.q.2.2 hd) hr
theorem Pos.retVW {Q : Option Value → Heap → List Loc → Prop} (P : Pos p l e R s m args below meth c code Z EL wl hS own vm0 T locs cells slots h) (hEL : EW Z a0 EL) (hlk : meth.locks = false) {t : FieldType} (hret : meth.sig.returnType = some t) (ht : t = .boolean ∨ t = .byte ∨ t = .char ∨ t = .short) {z : Int32} (hd : decode code pc = .ok (.ireturn, 1)) (hc : cells ≤ R.cells) (hs : slots ≤ R.slots) (hQ : Q (some (.int (nar t z))) h locs) : Go p.tables e below (GW s Z EL hS Q R) (T.setTop (mkF m pc ls (.int z :: st))) :=
  P.endW hEL hlk (fun q => by rw [hret] at q; cases q) hc hs hQ fun fs hr => RoadKit.retN P.1 P.q.2.1 hret ht (hb P.q.2.2 hd) hr
theorem Pos.retAW {Q : Option Value → Heap → List Loc → Prop} (P : Pos p l e R s m args below meth c code Z EL wl hS own vm0 T locs cells slots h) (hEL : EW Z a0 EL) (hlk : meth.locks = false) {t : FieldType} (hret : meth.sig.returnType = some t) (ht : t.isReference = true) {v : Value} (hv : v.isRef = true) (hn : narrow t v = v) (hd : decode code pc = .ok (.areturn, 1)) (hc : cells ≤ R.cells) (hs : slots ≤ R.slots) (hQ : Q (some v) h locs) : Go p.tables e below (GW s Z EL hS Q R) (T.setTop (mkF m pc ls (v :: st))) :=
  P.endW hEL hlk (fun q => by rw [hret] at q; cases q) hc hs hQ fun fs hr => retOut P.1 P.q.2.1 hret hn (Or.inr (Or.inr (Or.inr (Or.inr ⟨rfl, ht, hv⟩)))) (hb P.q.2.2 hd) hr
theorem Pos.retDW {Q : Option Value → Heap → List Loc → Prop} (P : Pos p l e R s m args below meth c code Z EL wl hS own vm0 T locs cells slots h) (hEL : EW Z a0 EL) (hlk : meth.locks = false) (hret : meth.sig.returnType = some .double) {z : UInt64} (hd : decode code pc = .ok (.dreturn, 1)) (hc : cells ≤ R.cells) (hs : slots ≤ R.slots) (hQ : Q (some (.double z)) h locs) : Go p.tables e below (GW s Z EL hS Q R) (T.setTop (mkF m pc ls (.double z :: st))) :=
  P.endW hEL hlk (fun q => by rw [hret] at q; cases q) hc hs hQ fun fs hr => retOut P.1 P.q.2.1 hret rfl (Or.inr (Or.inr (Or.inl ⟨rfl, rfl, z, rfl⟩))) (hb P.q.2.2 hd) hr
theorem Pos.retLW {Q : Option Value → Heap → List Loc → Prop} (P : Pos p l e R s m args below meth c code Z EL wl hS own vm0 T locs cells slots h) (hEL : EW Z a0 EL) (hlk : meth.locks = false) (hret : meth.sig.returnType = some .long) {z : Int64} (hd : decode code pc = .ok (.lreturn, 1)) (hc : cells ≤ R.cells) (hs : slots ≤ R.slots) (hQ : Q (some (.long z)) h locs) : Go p.tables e below (GW s Z EL hS Q R) (T.setTop (mkF m pc ls (.long z :: st))) :=
  P.endW hEL hlk (fun q => by rw [hret] at q; cases q) hc hs hQ fun fs hr => retOut P.1 P.q.2.1 hret rfl (Or.inr (Or.inl ⟨rfl, rfl, z, rfl⟩)) (hb P.q.2.2 hd) hr
theorem Pos.retFW {Q : Option Value → Heap → List Loc → Prop} (P : Pos p l e R s m args below meth c code Z EL wl hS own vm0 T locs cells slots h) (hEL : EW Z a0 EL) (hlk : meth.locks = false) (hret : meth.sig.returnType = some .float) {z : UInt32} (hd : decode code pc = .ok (.freturn, 1)) (hc : cells ≤ R.cells) (hs : slots ≤ R.slots) (hQ : Q (some (.float z)) h locs) : Go p.tables e below (GW s Z EL hS Q R) (T.setTop (mkF m pc ls (.float z :: st))) :=
  P.endW hEL hlk (fun q => by rw [hret] at q; cases q) hc hs hQ fun fs hr => retOut P.1 P.q.2.1 hret rfl (Or.inr (Or.inr (Or.inr (Or.inl ⟨rfl, rfl, z, rfl⟩)))) (hb P.q.2.2 hd) hr
end Heapy
section Met
/-- what a stack trace asks of the tables and of the frames beneath -/
abbrev KK : Program → Env → List Frame → State → Array Value → Prop := fun _ _ bl s _ => s.vm.MethodsKnown ∧ s.vm.FramesKnown bl
variable {l : Launch} {Z : State} {EL : List (String × Nat)} {y : MethodName} {bytes : ByteArray} {maxL : Nat} {ret : Option FieldType} {ws : List Jvm.Cond} {rm : Room} {as' : Array Value} {h0 : Heap} {Q : Option Value → Heap → List Loc → Prop} {a0 : Array Value}
/-- a body's contract, narrow (nothing interned) -/
def MetN (l : Launch) (Z : State) (y : MethodName) (bytes : ByteArray) (maxL : Nat) (ret : Option FieldType) (ws : List Jvm.Cond) (rm : Room) (as' : Array Value) (h0 : Heap) (Q : Option Value → Heap → List Loc → Prop) : Prop :=
  MetFree l y (head1 (Jvm.Cond.code y bytes maxL ret :: ws) rm) (fun a U => a = as' ∧ Z.Warmed39 U.vm ∧ U.heap = h0) (fun _ _ _ _ _ => True) (fun _ U o U' => GN U Q rm o U')
/-- .. wide; the places of ss are no booked String's -/
def MetW (l : Launch) (Z : State) (EL : List (String × Nat)) (y : MethodName) (bytes : ByteArray) (maxL : Nat) (ret : Option FieldType) (ws : List Jvm.Cond) (rm : Room) (as' : Array Value) (ss : List Addr) (h0 : Heap) (Q : Option Value → Heap → List Loc → Prop) : Prop :=
  MetFree l y (head1 (Jvm.Cond.code y bytes maxL ret :: ws) rm) (fun a U => a = as' ∧ Z.Warmed39 U.vm ∧ U.heap = h0 ∧ CHv Z EL U.vm h0 ∧ ∀ x ∈ ss, Safe Z EL U.vm h0 x) (fun _ _ _ _ _ => True) (fun _ U o U' => GW U Z EL h0 Q rm o U')
theorem MetN.mk {ls0 : Array Slot} (wl : List Addr) (hp : plainFor y = true) (hent : ∀ m, entryFrame m as' maxL = mkF m 0 ls0 [])
    (body : ∀ p e s m below meth c s₁, c.maxLocals = maxL → meth.sig.returnType = ret → meth.name = y.name → meth.locks = false → Pos p l e rm s m as' below meth c bytes Z [] wl h0 y.cls s.vm s₁ [] 0 0 h0 → Go p.tables e below (GN s Q rm) (s₁.setTop (mkF m 0 ls0 []))) : MetN l Z y bytes maxL ret ws rm as' h0 Q := by
  refine MetFree.of_bodySF hp hisR ?_
  intro p e s m args below meth c s₁ Bd hml hP hK
  obtain ⟨rfl, hZ, hh⟩ := hP
  have hown : s.vm.findClass y.cls = some m.cls := findClass_of_methodNamed Bd.named
  have hnm := (name_of_methodNamed Bd.named Bd.method).1
  have e0 : s₁.heap = h0 := by rw [← hh, Bd.state]; rfl
  have X0 : Stand p l e rm s m args below meth c s₁ [] 0 0 := Stand.of_body Bd
  have hC : CHv Z [] s.vm h0 := fun _ q => nomatch q
  rw [hent]
  exact body p e s m below meth c s₁ hml Bd.returns hnm Bd.notSynchronized ⟨X0, e0, ⟨0, (State.WarmedH.refl s).since _, Nat.zero_le _⟩, hZ, hown, Frw.nil, hh, CHr.refl hC, Bd.exec, Bd.bytes⟩
theorem MetW.mk {ls0 : Array Slot} {ss : List Addr} (wl : List Addr) (hp : plainFor y = true) (hent : ∀ m, entryFrame m as' maxL = mkF m 0 ls0 [])
    (body : ∀ p e s m below meth c s₁, c.maxLocals = maxL → meth.sig.returnType = ret → meth.name = y.name → meth.locks = false → (∀ x ∈ ss, Safe Z EL s.vm h0 x) → Pos p l e rm s m as' below meth c bytes Z EL wl h0 y.cls s.vm s₁ [] 0 0 h0 → Go p.tables e below (GW s Z EL h0 Q rm) (s₁.setTop (mkF m 0 ls0 []))) : MetW l Z EL y bytes maxL ret ws rm as' ss h0 Q := by
  refine MetFree.of_bodySF hp hisR ?_
  intro p e s m args below meth c s₁ Bd hml hP hK
  obtain ⟨rfl, hZ, hh, hC, hss⟩ := hP
  have hown : s.vm.findClass y.cls = some m.cls := findClass_of_methodNamed Bd.named
  have hnm := (name_of_methodNamed Bd.named Bd.method).1
  have e0 : s₁.heap = h0 := by rw [← hh, Bd.state]; rfl
  have X0 : Stand p l e rm s m args below meth c s₁ [] 0 0 := Stand.of_body Bd
  rw [hent]
  exact body p e s m below meth c s₁ hml Bd.returns hnm Bd.notSynchronized hss ⟨X0, e0, ⟨0, (State.WarmedH.refl s).since _, Nat.zero_le _⟩, hZ, hown, Frw.nil, hh, CHr.refl hC, Bd.exec, Bd.bytes⟩
def MetNK (l : Launch) (Z : State) (y : MethodName) (bytes : ByteArray) (maxL : Nat) (ret : Option FieldType) (ws : List Jvm.Cond) (rm : Room) (as' : Array Value) (h0 : Heap) (Q : Option Value → Heap → List Loc → Prop) : Prop :=
  MetFree l y (head1 (Jvm.Cond.code y bytes maxL ret :: ws) rm) (fun a U => a = as' ∧ Z.Warmed39 U.vm ∧ U.heap = h0) KK (fun _ U o U' => GN U Q rm o U')
def MetWK (l : Launch) (Z : State) (EL : List (String × Nat)) (y : MethodName) (bytes : ByteArray) (maxL : Nat) (ret : Option FieldType) (ws : List Jvm.Cond) (rm : Room) (as' : Array Value) (ss : List Addr) (h0 : Heap) (Q : Option Value → Heap → List Loc → Prop) : Prop :=
  MetFree l y (head1 (Jvm.Cond.code y bytes maxL ret :: ws) rm) (fun a U => a = as' ∧ Z.Warmed39 U.vm ∧ U.heap = h0 ∧ CHv Z EL U.vm h0 ∧ ∀ x ∈ ss, Safe Z EL U.vm h0 x) KK (fun _ U o U' => GW U Z EL h0 Q rm o U')
theorem MetNK.mk {ls0 : Array Slot} (wl : List Addr) (hp : plainFor y = true) (hent : ∀ m, entryFrame m as' maxL = mkF m 0 ls0 [])
    (body : ∀ p e s m below meth c s₁, c.maxLocals = maxL → meth.sig.returnType = ret → meth.name = y.name → meth.locks = false → s.vm.MethodsKnown → s.vm.FramesKnown below → Pos p l e rm s m as' below meth c bytes Z [] wl h0 y.cls s.vm s₁ [] 0 0 h0 → Go p.tables e below (GN s Q rm) (s₁.setTop (mkF m 0 ls0 []))) : MetNK l Z y bytes maxL ret ws rm as' h0 Q := by
  refine MetFree.of_bodySF hp hisR ?_
  intro p e s m args below meth c s₁ Bd hml hP hK
  obtain ⟨rfl, hZ, hh⟩ := hP
  have hown : s.vm.findClass y.cls = some m.cls := findClass_of_methodNamed Bd.named
  have hnm := (name_of_methodNamed Bd.named Bd.method).1
  have e0 : s₁.heap = h0 := by rw [← hh, Bd.state]; rfl
  have X0 : Stand p l e rm s m args below meth c s₁ [] 0 0 := Stand.of_body Bd
  have hC : CHv Z [] s.vm h0 := fun _ q => nomatch q
  rw [hent]
  exact body p e s m below meth c s₁ hml Bd.returns hnm Bd.notSynchronized hK.1 hK.2 ⟨X0, e0, ⟨0, (State.WarmedH.refl s).since _, Nat.zero_le _⟩, hZ, hown, Frw.nil, hh, CHr.refl hC, Bd.exec, Bd.bytes⟩
theorem MetWK.mk {ls0 : Array Slot} {ss : List Addr} (wl : List Addr) (hp : plainFor y = true) (hent : ∀ m, entryFrame m as' maxL = mkF m 0 ls0 [])
    (body : ∀ p e s m below meth c s₁, c.maxLocals = maxL → meth.sig.returnType = ret → meth.name = y.name → meth.locks = false → s.vm.MethodsKnown → s.vm.FramesKnown below → (∀ x ∈ ss, Safe Z EL s.vm h0 x) → Pos p l e rm s m as' below meth c bytes Z EL wl h0 y.cls s.vm s₁ [] 0 0 h0 → Go p.tables e below (GW s Z EL h0 Q rm) (s₁.setTop (mkF m 0 ls0 []))) : MetWK l Z EL y bytes maxL ret ws rm as' ss h0 Q := by
  refine MetFree.of_bodySF hp hisR ?_
  intro p e s m args below meth c s₁ Bd hml hP hK
  obtain ⟨rfl, hZ, hh, hC, hss⟩ := hP
  have hown : s.vm.findClass y.cls = some m.cls := findClass_of_methodNamed Bd.named
  have hnm := (name_of_methodNamed Bd.named Bd.method).1
  have e0 : s₁.heap = h0 := by rw [← hh, Bd.state]; rfl
  have X0 : Stand p l e rm s m args below meth c s₁ [] 0 0 := Stand.of_body Bd
  rw [hent]
  exact body p e s m below meth c s₁ hml Bd.returns hnm Bd.notSynchronized hK.1 hK.2 hss ⟨X0, e0, ⟨0, (State.WarmedH.refl s).since _, Nat.zero_le _⟩, hZ, hown, Frw.nil, hh, CHr.refl hC, Bd.exec, Bd.bytes⟩
variable {p : Program} {e : Env} {R : Room} {s : State} {args : Array Value} {below : List Frame} {vm0 : Vm} {len W : Nat} {m : MethodId} {meth : Method} {c : Code} {code : ByteArray} {wl : List Addr} {hS h : Heap} {own : String} {T : State} {locs : List Loc} {cells slots : Nat}
/-- a narrow contract pays a call -/
theorem MetN.pay (hM : MetN l Z y bytes maxL ret [] rm as' h Q) (P : Pos p l e R s m args below meth c code Z EL wl hS own vm0 T locs cells slots h) (wc : (Jvm.Cond.code y bytes maxL ret).before a0 Z = true) (wz : (Jvm.Cond.initialized y.cls).before a0 Z = true) (hf : rm.frames + 1 ≤ R.frames) (hl : W + (maxL + 11) + rm.locals ≤ R.locals) :
    Back l R p e below (s.setVm vm0) args y len W (fun A a => a = as' ∧ A.U.heap = h ∧ A.cells + rm.cells ≤ R.cells ∧ A.slots + rm.slots ≤ R.slots) (fun A _ v B => ∃ L, Q v B.U.heap L ∧ B.locs = A.locs ++ L ∧ B.cells = A.cells + rm.cells ∧ B.slots = A.slots + rm.slots) :=
  backOf hM P.hz wc wz hf hl
theorem MetNK.pay (hM : MetNK l Z y bytes maxL ret [] rm as' h Q) (P : Pos p l e R s m args below meth c code Z EL wl hS own vm0 T locs cells slots h) (hTK : s.vm.MethodsKnown) (hB : s.vm.FramesKnown below) (wc : (Jvm.Cond.code y bytes maxL ret).before a0 Z = true) (wz : (Jvm.Cond.initialized y.cls).before a0 Z = true) (hf : rm.frames + 1 ≤ R.frames) (hl : W + (maxL + 11) + rm.locals ≤ R.locals) :
    Back l R p e below (s.setVm vm0) args y len W (fun A a => a = as' ∧ A.U.heap = h ∧ A.cells + rm.cells ≤ R.cells ∧ A.slots + rm.slots ≤ R.slots) (fun A _ v B => ∃ L, Q v B.U.heap L ∧ B.locs = A.locs ++ L ∧ B.cells = A.cells + rm.cells ∧ B.slots = A.slots + rm.slots) :=
  backOfKL hM P.hz wc wz hf hl (Vm.MethodsKnown.alikeC P.alS hTK) (Vm.FramesKnown.alikeC P.alS hB)
/-- a wide one -/
theorem MetW.pay {ss : List Addr} (hM : MetW l Z EL y bytes maxL ret [] rm as' ss h Q) (P : Pos p l e R s m args below meth c code Z EL wl hS own vm0 T locs cells slots h) (hEL : EW Z a0 EL) (hss : ∀ x ∈ ss, x < h.size ∧ Safe Z EL vm0 h x) (wc : (Jvm.Cond.code y bytes maxL ret).before a0 Z = true) (wz : (Jvm.Cond.initialized y.cls).before a0 Z = true) (hf : rm.frames + 1 ≤ R.frames) (hl : W + (maxL + 11) + rm.locals ≤ R.locals) :
    BackS l R p e below (s.setVm vm0) args y len W (fun A a => a = as' ∧ A.U.heap = h ∧ A.cells + rm.cells ≤ R.cells ∧ A.slots + rm.slots ≤ R.slots) (fun A _ v B => ∃ L, Q v B.U.heap L ∧ B.locs = A.locs ++ L ∧ B.cells = A.cells + rm.cells ∧ B.slots = A.slots + rm.slots ∧ CHr Z EL vm0 h B.U.vm B.U.heap) :=
  BackS.of_freeW (bytes := bytes) (maxL := maxL) (ret := ret) (E := fun _ first o t L k n => k = rm.cells ∧ n = rm.slots ∧ (∃ v, o = .returned v ∧ Q v t.heap L) ∧ CHr Z EL first.vm h t.vm t.heap) hM hf hl
    (fun m meth c A a Y hp => have hU : Z.Warmed39 A.U.vm := wtrans (s := s.setVm vm0) P.hz Y.warmed
      ⟨by show (Jvm.Cond.and _ .tt).before a A.U = true; rw [Jvm.Cond.before_and, mv hU wc]; rfl, mv hU wc, mv hU wz, hp.2.2.1, hp.2.2.2⟩)
    (fun m meth c A a g mk Y hp => ⟨hp.1, wtrans (s := s.setVm vm0) P.hz Y.warmed, hp.2.1, (CHv.at Y P.hz hEL P.chv).1, fun x hx => (CHv.at Y P.hz hEL P.chv).safe (hss x hx).1 (hss x hx).2⟩) (fun _ _ _ _ _ _ _ _ _ => trivial)
    (fun _ _ _ _ ⟨v, L, h1, h2, h3, h4⟩ => ⟨L, _, _, h4, rfl, rfl, ⟨v, h1, h2⟩, h3⟩)
    (fun m meth c A a g mk v t L k n Y hp _ _ ⟨e1, e2, ⟨v', e3, e4⟩, e5⟩ => by
      cases e3; subst e1 e2
      exact ⟨L, e4, rfl, rfl, rfl, (CHv.at Y P.hz hEL P.chv).trans e5⟩)
end Met
/-- what a body that touches nothing says -/
def Pure (v : Option Value) (h0 : Heap) (u : Option Value) (h : Heap) (L : List Loc) : Prop := u = v ∧ L = [] ∧ h0 = h
theorem Pure.ok {v : Option Value} {h0 : Heap} {Z : State} {EL : List (String × Nat)} {vm0 : Vm} {wl : List Addr} {n : Nat} (H : CHv Z EL vm0 h0) : ∀ u h L, Pure v h0 u h L → Frw wl n L ∧ CHr Z EL vm0 h0 vm0 h := fun u h L q => by
  obtain ⟨-, rfl, rfl⟩ := q; exact ⟨Frw.nil, CHr.refl H⟩
theorem ns_root {Z : State} {a0 : Array Value} {O K : String} {n : Nat} (w : (Jvm.Cond.noSuperclass O).before a0 Z = true) (wk : (Jvm.Cond.instantiable K n).before a0 Z = true) (hn : O ≠ K) : NS Z O K := by
  obtain ⟨c, k, h1, h2, h3, -, -⟩ := Cond.noSuperclass_spec w
  obtain ⟨t, kt, g1, -⟩ := Cond.instantiable_spec wk
  have ne := ids_ne h1 g1 hn
  refine ⟨c, t, h1, g1, fun fuel => ?_⟩
  cases fuel with
  | zero => rfl
  | succ f => simp [Vm.isSubclassAux, ne, h2, h3]
theorem ns_no {Z : State} {a0 : Array Value} {C S K : String} {n : Nat} (w : (Jvm.Cond.superclass C S).before a0 Z = true) (wk : (Jvm.Cond.instantiable K n).before a0 Z = true) (N : NS Z C K) (hn : C ≠ K) : ∃ c t, Z.vm.findClass C = some c ∧ Z.vm.findClass K = some t ∧ Z.vm.assignable c t = false := by
  obtain ⟨c, t, h0, g0, n3⟩ := N
  obtain ⟨p, k, kp, h1, h2, h3, h4, h5, -, h7⟩ := Cond.superclass_spec h0 w
  obtain ⟨t', k', g1, g2, g5, g6, -⟩ := Cond.instantiable_spec wk
  cases g0.symm.trans g1
  have g7 : k'.isInterface = false := by cases q : k'.isInterface <;> simp [q] at g6 ⊢
  have ne := ids_ne h0 g0 hn
  refine ⟨c, t, h0, g0, ?_⟩
  show Z.vm.assignableAux (255 + 1) c t = false
  simp [Vm.assignableAux, ne, h2, g2, h5, g5, g7, Vm.isSubclass, n3]
theorem Ext.keepNew {h0 h h' : Heap} {wl : List Addr} (E : Ext h0 h) (K : Keep h h' wl) (q : ∀ x ∈ wl, h0.size ≤ x) : Ext h0 h' := ⟨Nat.le_trans E.1 K.1, fun a c r => K.2.1 a c (E.2 a c r) fun z => absurd (Array.getElem?_eq_some_iff.mp r).1 (Nat.not_lt.mpr (q a z))⟩
theorem Ext.trans {h0 h h' : Heap} (E : Ext h0 h) (E' : Ext h h') : Ext h0 h' := ⟨Nat.le_trans E.1 E'.1, fun a c r => E'.2 a c (E.2 a c r)⟩
theorem Ext.refl (h : Heap) : Ext h h := ⟨Nat.le_refl _, fun _ _ r => r⟩
theorem Ext.wrNew {h0 h h' : Heap} {a : Addr} {sl : Nat} {v : Value} (E : Ext h0 h) (Wq : Wr h h' a sl v) (q : h0.size ≤ a) : Ext h0 h' := Ext.keepNew E (Keep.of_wr Wq) (allS q all0)
theorem Ext.toKeep {h h' : Heap} (E : Ext h h') (wl : List Addr) : Keep h h' wl := (Keep.refl h wl).ext E
end W
end Jvm.Pilot.@@N@@
/- laws to paste: Road.backV, Road.codOf, Road.eqW, pair_says, shr0, shr1, chr8_lo8, lo8_mask, narrow_ch, fits_lo8 (cut by pick.py; bodies as the Statement names them) -/
namespace Jvm.Pilot.@@N@@
namespace StrChars
open Jvm Sem ClassFile Op Lib Jvm.Stand Jvm.Free.XT Jvm.Free.ALB Jvm.Free.JM Jvm.Free
open Jvm.Lib.Cold (StaticIs)
/-- a char array whose places are chars -/
def Ch (a : Addr) (A : Cell) (U : State) : Prop := Arr .char a A U ∧ Typed .char A
theorem Ch.mv {a : Addr} {A : Cell} {U U' : State} (h : Ch a A U) (hal : U.vm.Alike U'.vm) (hh : U'.heap = U.heap) : Ch a A U' := ⟨h.1.mv hal hh, h.2⟩
theorem Ch.keep {a : Addr} {A : Cell} {U U' : State} (h : Ch a A U) (hal : U.vm.Alike U'.vm) (hk : U'.heap[a]? = some A) : Ch a A U' := ⟨h.1.keep hal hk, h.2⟩
/-- what place i of a char[]'s cell holds -/
def cv (A : Cell) (i : Nat) : Int32 := match A.slots[i]? with | some (.int x) => x | _ => 0
theorem Ch.get {a : Addr} {A : Cell} {U : State} (h : Ch a A U) {i : Nat} (hi : i < A.slots.size) : A.slots[i]? = some (.int (cv A i)) := by
  have e := Array.getElem?_eq_getElem hi
  have f := h.2 i _ e
  unfold cv; rw [e]
  generalize A.slots[i] = v at f
  cases v <;> simp [fits] at f ⊢
/-- the byte that i2b leaves of a char -/
def lo8 (x : Int32) : Int32 := x.toInt8.toInt32
theorem fits_lo8 (y : Int32) : fits .byte (.int (lo8 y)) = true := by
  have h1 := y.toInt8.le_toInt
  have h2 := y.toInt8.toInt_lt
  simp only [lo8, fits, Bool.and_eq_true, decide_eq_true_eq, Int32.le_iff_toInt_le, Int8.toInt_toInt32, show (-128 : Int32).toInt = -128 from by decide, show (127 : Int32).toInt = 127 from by decide]
  omega
/-- A' is A but that each place j of lo .. hi - 1 holds f j -/
def Laid (A A' : Cell) (lo hi : Nat) (f : Nat → Value) : Prop := A'.cls = A.cls ∧ A'.vm = A.vm ∧ A'.slots.size = A.slots.size ∧ ∀ i, A'.slots[i]? = if lo ≤ i ∧ i < hi then some (f i) else A.slots[i]?
theorem Laid.zero (A : Cell) (lo : Nat) (f : Nat → Value) : Laid A A lo (lo + 0) f := ⟨rfl, rfl, rfl, fun i => by rw [if_neg (by omega)]⟩
theorem Laid.step {A Ak : Cell} {lo k : Nat} {f : Nat → Value} {v : Value} (h : Laid A Ak lo k f) (hlo : lo ≤ k) (hk : k < Ak.slots.size) (hv : v = f k) : Laid A (Ak.setSlot k v) lo (k + 1) f := by
  refine ⟨h.1, h.2.1, by simpa [Cell.setSlot] using h.2.2.1, fun i => ?_⟩
  by_cases e : k = i
  · subst e; rw [Cell.slots_setSlot_self v hk, if_pos (by omega), hv]
  · rw [Cell.slots_setSlot_ne v e, h.2.2.2 i]
    by_cases q : lo ≤ i ∧ i < k
    · rw [if_pos q, if_pos (by omega)]
    · rw [if_neg q, if_neg (by omega)]
def U16 : String := "java/lang/StringUTF16"
namespace Cmp5
def yN : MethodName := ⟨"java/lang/StringUTF16", "compress", "([CI[BII)I"⟩
abbrev yB : ByteArray := jdk_52_method_21_code
theorem d0 : decode yB 0 = .ok (.iconst 0, 1) := by decide +kernel
theorem d1 : decode yB 1 = .ok (.istore 5, 2) := by decide +kernel
theorem d3 : decode yB 3 = .ok (.iload 5, 2) := by decide +kernel
theorem d5 : decode yB 5 = .ok (.iload 4, 2) := by decide +kernel
theorem d7 : decode yB 7 = .ok (.if_icmp (.ge) 37, 3) := by decide +kernel
theorem d10 : decode yB 10 = .ok (.aload_n 0, 1) := by decide +kernel
theorem d11 : decode yB 11 = .ok (.iload_n 1, 1) := by decide +kernel
theorem d12 : decode yB 12 = .ok (.caload, 1) := by decide +kernel
theorem d13 : decode yB 13 = .ok (.istore 6, 2) := by decide +kernel
theorem d15 : decode yB 15 = .ok (.iload 6, 2) := by decide +kernel
theorem d17 : decode yB 17 = .ok (.sipush 255, 3) := by decide +kernel
theorem d20 : decode yB 20 = .ok (.if_icmp (.le) 6, 3) := by decide +kernel
theorem d26 : decode yB 26 = .ok (.aload_n 2, 1) := by decide +kernel
theorem d27 : decode yB 27 = .ok (.iload_n 3, 1) := by decide +kernel
theorem d28 : decode yB 28 = .ok (.iload 6, 2) := by decide +kernel
theorem d30 : decode yB 30 = .ok (.i2b, 1) := by decide +kernel
theorem d31 : decode yB 31 = .ok (.bastore, 1) := by decide +kernel
theorem d32 : decode yB 32 = .ok (.iinc 1 1, 3) := by decide +kernel
theorem d35 : decode yB 35 = .ok (.iinc 3 1, 3) := by decide +kernel
theorem d38 : decode yB 38 = .ok (.iinc 5 1, 3) := by decide +kernel
theorem d41 : decode yB 41 = .ok (.goto (-38), 3) := by decide +kernel
theorem d44 : decode yB 44 = .ok (.iload 4, 2) := by decide +kernel
theorem d46 : decode yB 46 = .ok (.ireturn, 1) := by decide +kernel
def site : List Cond := []
def tab : Cond := tabOf yN yB 7 (some .int) site
def P (b : Addr) (A : Cell) (d : Addr) (B : Cell) (o q len : Nat) (args : Array Value) (s : State) : Prop := args = #[.ref b, .int (Int32.ofNat o), .ref d, .int (Int32.ofNat q), .int (Int32.ofNat len)] ∧ Ch b A s ∧ Arr .byte d B s ∧ b ≠ d ∧ o + len ≤ A.slots.size ∧ q + len ≤ B.slots.size ∧ ∀ i, i < len → ¬ 255 < cv A (o + i)
def E (b : Addr) (A : Cell) (d : Addr) (B : Cell) (o q len : Nat) (r : Option Value) (s u : State) : Prop := r = some (.int (Int32.ofNat len)) ∧ ∃ B', Put d B' s u ∧ Laid B B' q (q + len) (fun j => Value.int (lo8 (cv A (o + (j - q)))))
/-- no char of the range above 255: len; the places written hold each char's low byte -/
theorem law (l : Launch) (b : Addr) (A : Cell) (d : Addr) (B : Cell) (o q len : Nat) : Law l yN 5 5 0 0 yB 7 (some .int) site (P b A d B o q len) (E b A d B o q len) (copyLocs d q len) 0 0 := by
  refine Law.of_walk (plainFor_of_name (by decide +kernel)) (by decide +kernel) (by decide +kernel) (by decide) (fun _ _ h => by rw [h.1]; rfl) (fun _ U U' hal hh h => ⟨h.1, h.2.1.mv hal hh, h.2.2.1.mv hal hh, h.2.2.2⟩) (fun r U U' V V' h1 hal h2 h => ⟨h.1, h.2.elim fun B' q => ⟨B', q.1.mv h1 h2, q.2⟩⟩) ?_
  intro p e s m args below meth c s₁ X0 hexec hbytes hml hret hlk hnm hown hh0 W hP
  obtain ⟨rfl, hA, hB, hne, l1, l2, hp⟩ := hP
  have c1 : Steps p.tables e below (s₁.setTop (entryFrame m #[.ref b, .int (Int32.ofNat o), .ref d, .int (Int32.ofNat q), .int (Int32.ofNat len)] 7)) (s₁.setTop (mkF m 0 #[.val (.ref b), .val (.int (Int32.ofNat o)), .val (.ref d), .val (.int (Int32.ofNat q)), .val (.int (Int32.ofNat len)), .unset, .unset] [])) := entry rfl
  have hA0 := hA.1.mv X0.warmed.alike hh0
  have hB0 := hB.mv X0.warmed.alike hh0
  have a31 := hA.1.2.2.2
  have c2 : Steps p.tables e below (s₁.setTop (entryFrame m #[.ref b, .int (Int32.ofNat o), .ref d, .int (Int32.ofNat q), .int (Int32.ofNat len)] 7)) (s₁.setTop (mkF m 3 #[.val (.ref b), .val (.int (Int32.ofNat o)), .val (.ref d), .val (.int (Int32.ofNat q)), .val (.int (Int32.ofNat len)), .val (.int 0), .unset] [])) := c1.trans (by
    refine iconstV X0.here hexec rfl 0 (hb hbytes d0) (by decide) ?_
    refine XS.istore X0.here hexec rfl (hb hbytes d1) rfl rfl ?_
    exact Steps.refl _)
  have loop : ∀ (r i : Nat), i + r = len → ∀ (z : Slot), (z = .unset ∨ ∃ w, z = .val w ∧ w.category = 1) → ∀ (Tl : State) (Bk : Cell), Stand p l e { frames := 0, locals := 0, cells := 0, slots := 0 } s m #[.ref b, .int (Int32.ofNat o), .ref d, .int (Int32.ofNat q), .int (Int32.ofNat len)] below meth c Tl ([] ++ copyLocs d q i) 0 0 → Put d Bk s₁ Tl → Laid B Bk q (q + i) (fun j => Value.int (lo8 (cv A (o + (j - q))))) →
      Steps p.tables e below (s₁.setTop (entryFrame m #[.ref b, .int (Int32.ofNat o), .ref d, .int (Int32.ofNat q), .int (Int32.ofNat len)] 7)) (Tl.setTop (mkF m 3 #[.val (.ref b), .val (.int (Int32.ofNat (o + i))), .val (.ref d), .val (.int (Int32.ofNat (q + i))), .val (.int (Int32.ofNat len)), .val (.int (Int32.ofNat i)), z] [])) → ∃ (T' : State) (B' : Cell) (z' : Slot), Stand p l e { frames := 0, locals := 0, cells := 0, slots := 0 } s m #[.ref b, .int (Int32.ofNat o), .ref d, .int (Int32.ofNat q), .int (Int32.ofNat len)] below meth c T' ([] ++ copyLocs d q len) 0 0 ∧ Put d B' s₁ T' ∧ Laid B B' q (q + len) (fun j => Value.int (lo8 (cv A (o + (j - q))))) ∧
      Steps p.tables e below (s₁.setTop (entryFrame m #[.ref b, .int (Int32.ofNat o), .ref d, .int (Int32.ofNat q), .int (Int32.ofNat len)] 7)) (T'.setTop (mkF m 3 #[.val (.ref b), .val (.int (Int32.ofNat (o + len))), .val (.ref d), .val (.int (Int32.ofNat (q + len))), .val (.int (Int32.ofNat len)), .val (.int (Int32.ofNat len)), z'] [])) := by
    intro r
    induction r with
    | zero =>
      intro i hi z hz Tl Bk Xl pl fl cl
      have hil : i = len := by omega
      rw [hil] at Xl fl cl
      exact ⟨Tl, Bk, z, Xl, pl, fl, cl⟩
    | succ r ih =>
      intro i hi z hz Tl Bk Xl pl fl cl
      have all := X0.warmed.alike.symm.trans Xl.warmed.alike
      have hAl := hA0.keep all (pl.other hne hA0.1)
      have hBk := hB0.like all pl.1 fl.1 fl.2.1 fl.2.2.1
      have hlt : q + i < Bk.slots.size := by rw [fl.2.2.1]; omega
      have c3 : Steps p.tables e below (s₁.setTop (entryFrame m #[.ref b, .int (Int32.ofNat o), .ref d, .int (Int32.ofNat q), .int (Int32.ofNat len)] 7)) (Tl.setTop (mkF m 12 #[.val (.ref b), .val (.int (Int32.ofNat (o + i))), .val (.ref d), .val (.int (Int32.ofNat (q + i))), .val (.int (Int32.ofNat len)), .val (.int (Int32.ofNat i)), z] [.int (Int32.ofNat (o + i)), .ref b])) := cl.trans (by
        refine XS.iload Xl.here hexec rfl (hb hbytes d3) rfl ?_
        refine XS.iload Xl.here hexec rfl (hb hbytes d5) rfl ?_
        refine XS.icmpNo Xl.here hexec rfl (hb hbytes d7) rfl (ii_ge_f (lt32 (by omega) (by omega))) ?_
        refine XS.aloadN Xl.here hexec rfl (hb hbytes d10) rfl rfl ?_
        refine XS.iloadN Xl.here hexec rfl (hb hbytes d11) rfl ?_
        exact Steps.refl _)
      have c4 : Steps p.tables e below (s₁.setTop (entryFrame m #[.ref b, .int (Int32.ofNat o), .ref d, .int (Int32.ofNat q), .int (Int32.ofNat len)] 7)) (Tl.setTop (mkF m 13 #[.val (.ref b), .val (.int (Int32.ofNat (o + i))), .val (.ref d), .val (.int (Int32.ofNat (q + i))), .val (.int (Int32.ofNat len)), .val (.int (Int32.ofNat i)), z] [.int (cv A (o + i))])) := c3.trans (by
        refine Xl.aget hexec hAl rfl (hA.get (i := o + i) (by omega)) rfl rfl (hb hbytes d12) ?_
        exact Steps.refl _)
      have c5 : Steps p.tables e below (s₁.setTop (entryFrame m #[.ref b, .int (Int32.ofNat o), .ref d, .int (Int32.ofNat q), .int (Int32.ofNat len)] 7)) (Tl.setTop (mkF m 15 #[.val (.ref b), .val (.int (Int32.ofNat (o + i))), .val (.ref d), .val (.int (Int32.ofNat (q + i))), .val (.int (Int32.ofNat len)), .val (.int (Int32.ofNat i)), .val (.int (cv A (o + i)))] [])) := c4.trans (by
        refine XS.istoreS Xl.here hexec rfl (hb hbytes d13) rfl rfl hz ?_
        exact Steps.refl _)
      have c6 : Steps p.tables e below (s₁.setTop (entryFrame m #[.ref b, .int (Int32.ofNat o), .ref d, .int (Int32.ofNat q), .int (Int32.ofNat len)] 7)) (Tl.setTop (mkF m 31 #[.val (.ref b), .val (.int (Int32.ofNat (o + i))), .val (.ref d), .val (.int (Int32.ofNat (q + i))), .val (.int (Int32.ofNat len)), .val (.int (Int32.ofNat i)), .val (.int (cv A (o + i)))] [.int (lo8 (cv A (o + i))), .int (Int32.ofNat (q + i)), .ref d])) := c5.trans (by
        refine XS.iload Xl.here hexec rfl (hb hbytes d15) rfl ?_
        refine sipushV Xl.here hexec rfl 255 (hb hbytes d17) (by decide) ?_
        refine XS.icmpYes Xl.here hexec rfl (pc0 := 20) rfl (hb hbytes d20) rfl (ii_le_t (hp i (by omega))) (by decide) rfl ?_
        refine XS.aloadN Xl.here hexec rfl (hb hbytes d26) rfl rfl ?_
        refine XS.iloadN Xl.here hexec rfl (hb hbytes d27) rfl ?_
        refine XS.iload Xl.here hexec rfl (hb hbytes d28) rfl ?_
        refine i2b Xl.here hexec rfl (hb hbytes d30) rfl ?_
        exact Steps.refl _)
      obtain ⟨T7, X7, p7, st7⟩ := Xl.aput hexec hBk rfl hlt rfl (fits_lo8 (cv A (o + i))) (g := (mkF m 31 #[.val (.ref b), .val (.int (Int32.ofNat (o + i))), .val (.ref d), .val (.int (Int32.ofNat (q + i))), .val (.int (Int32.ofNat len)), .val (.int (Int32.ofNat i)), .val (.int (cv A (o + i)))] [.int (lo8 (cv A (o + i))), .int (Int32.ofNat (q + i)), .ref d])) rfl (rest := []) rfl (hb hbytes d31)
      have c8 : Steps p.tables e below (s₁.setTop (entryFrame m #[.ref b, .int (Int32.ofNat o), .ref d, .int (Int32.ofNat q), .int (Int32.ofNat len)] 7)) (T7.setTop (mkF m 32 #[.val (.ref b), .val (.int (Int32.ofNat (o + i))), .val (.ref d), .val (.int (Int32.ofNat (q + i))), .val (.int (Int32.ofNat len)), .val (.int (Int32.ofNat i)), .val (.int (cv A (o + i)))] [])) := c6.trans (st7 _ (Steps.refl _))
      have c9 : Steps p.tables e below (s₁.setTop (entryFrame m #[.ref b, .int (Int32.ofNat o), .ref d, .int (Int32.ofNat q), .int (Int32.ofNat len)] 7)) (T7.setTop (mkF m 3 #[.val (.ref b), .val (.int (Int32.ofNat (o + i) + 1)), .val (.ref d), .val (.int (Int32.ofNat (q + i) + 1)), .val (.int (Int32.ofNat len)), .val (.int (Int32.ofNat i + 1)), .val (.int (cv A (o + i)))] [])) := c8.trans (by
        refine iincV X7.here hexec rfl 1 (hb hbytes d32) (by decide) rfl rfl ?_
        refine iincV X7.here hexec rfl 1 (hb hbytes d35) (by decide) rfl rfl ?_
        refine iincV X7.here hexec rfl 1 (hb hbytes d38) (by decide) rfl rfl ?_
        refine XS.goto X7.here hexec rfl (pc0 := 41) rfl (hb hbytes d41) (by decide) rfl ?_
        exact Steps.refl _)
      have c10 : Steps p.tables e below (s₁.setTop (entryFrame m #[.ref b, .int (Int32.ofNat o), .ref d, .int (Int32.ofNat q), .int (Int32.ofNat len)] 7)) (T7.setTop (mkF m 3 #[.val (.ref b), .val (.int (Int32.ofNat (o + (i + 1)))), .val (.ref d), .val (.int (Int32.ofNat (q + (i + 1)))), .val (.int (Int32.ofNat len)), .val (.int (Int32.ofNat (i + 1))), .val (.int (cv A (o + i)))] [])) := by
        have := c9
        rw [succ32, succ32, succ32] at this
        exact this
      exact ih (i + 1) (by omega) _ (Or.inr ⟨_, rfl, rfl⟩) T7 _ (by rw [copyLocs_step, ← List.append_assoc]; exact X7) (pl.trans p7) (fl.step (by omega) hlt (by simp)) c10
  obtain ⟨T9, B9, z9, X9, p9, f9, g9⟩ := loop len 0 (by omega) .unset (Or.inl rfl) s₁ B (by simpa [copyLocs] using X0) ⟨hB0.1, fun _ _ => rfl, rfl⟩ (Laid.zero _ _ _) c2
  have c11 : Steps p.tables e below (s₁.setTop (entryFrame m #[.ref b, .int (Int32.ofNat o), .ref d, .int (Int32.ofNat q), .int (Int32.ofNat len)] 7)) (T9.setTop (mkF m 46 #[.val (.ref b), .val (.int (Int32.ofNat (o + len))), .val (.ref d), .val (.int (Int32.ofNat (q + len))), .val (.int (Int32.ofNat len)), .val (.int (Int32.ofNat len)), z9] [.int (Int32.ofNat len)])) := g9.trans (by
    refine XS.iload X9.here hexec rfl (hb hbytes d3) rfl ?_
    refine XS.iload X9.here hexec rfl (hb hbytes d5) rfl ?_
    refine XS.icmpYes X9.here hexec rfl (pc0 := 7) rfl (hb hbytes d7) rfl (ii_ge_t (nlt32 (by omega) (Nat.le_refl _))) (by decide) rfl ?_
    refine XS.iload X9.here hexec rfl (hb hbytes d44) rfl ?_
    exact Steps.refl _)
  exact ⟨T9, some (.int (Int32.ofNat len)), _, _, _, X9, by simp, rfl, rfl, (fun h => by cases h), ⟨rfl, B9, p9.from hh0, f9⟩, fun fs hl => c11.trans (X9.ireturnOut hexec hret rfl (Or.inl rfl) (hb hbytes d46) hl)⟩
end Cmp5
namespace Cmp3
def yN : MethodName := ⟨"java/lang/StringUTF16", "compress", "([CII)[B"⟩
abbrev yB : ByteArray := jdk_52_method_16_code
theorem d0 : decode yB 0 = .ok (.iload_n 2, 1) := by decide +kernel
theorem d1 : decode yB 1 = .ok (.newarray .byte, 2) := by decide +kernel
theorem d3 : decode yB 3 = .ok (.astore_n 3, 1) := by decide +kernel
theorem d4 : decode yB 4 = .ok (.aload_n 0, 1) := by decide +kernel
theorem d5 : decode yB 5 = .ok (.iload_n 1, 1) := by decide +kernel
theorem d6 : decode yB 6 = .ok (.aload_n 3, 1) := by decide +kernel
theorem d7 : decode yB 7 = .ok (.iconst 0, 1) := by decide +kernel
theorem d8 : decode yB 8 = .ok (.iload_n 2, 1) := by decide +kernel
theorem d9 : decode yB 9 = .ok (.invokestatic 115, 3) := by decide +kernel
theorem d12 : decode yB 12 = .ok (.istore 4, 2) := by decide +kernel
theorem d14 : decode yB 14 = .ok (.iload 4, 2) := by decide +kernel
theorem d16 : decode yB 16 = .ok (.iload_n 2, 1) := by decide +kernel
theorem d17 : decode yB 17 = .ok (.if_icmp (.eq) 40, 3) := by decide +kernel
theorem d57 : decode yB 57 = .ok (.aload_n 3, 1) := by decide +kernel
theorem d58 : decode yB 58 = .ok (.areturn, 1) := by decide +kernel
def site : List Cond := [.arrayClass .byte, Cmp5.tab] ++ staticW U16 115 Cmp5.yN
def tab : Cond := tabOf yN yB 6 (some (.array .byte)) site
def P (b : Addr) (A : Cell) (o len : Nat) (args : Array Value) (s : State) : Prop := args = #[.ref b, .int (Int32.ofNat o), .int (Int32.ofNat len)] ∧ Ch b A s ∧ o + len ≤ A.slots.size ∧ len ≤ 536870912 ∧ ∀ i, i < len → ¬ 255 < cv A (o + i)
def E (b : Addr) (A : Cell) (o len : Nat) (r : Option Value) (s u : State) : Prop := NewArr .byte "[B" len (fun j => .int (lo8 (cv A (o + j)))) r s u ∧ u.heap.size = s.heap.size + 1
/-- no char of the range above 255: a new byte[] of their low bytes -/
theorem law (l : Launch) (b : Addr) (A : Cell) (o len : Nat) : Law l yN 3 3 1 18 yB 6 (some (.array .byte)) site (P b A o len) (E b A o len) [] 1 len := by
  refine Law.of_walk (plainFor_of_name (by decide +kernel)) (by decide +kernel) (by decide +kernel) (by decide) (fun _ _ h => by rw [h.1]; rfl) (fun _ U U' hal hh h => ⟨h.1, h.2.1.mv hal hh, h.2.2⟩) (fun r U U' V V' h1 hal h2 h => ⟨NewArr.mv r U U' V V' h1 hal h2 h.1, by rw [h1, h2]; exact h.2⟩) ?_
  intro p e s m args below meth c s₁ X0 hexec hbytes hml hret hlk hnm hown hh0 W hP
  obtain ⟨rfl, hA, l1, l2, hp⟩ := hP
  have a31 := hA.1.2.2.2
  have c1 : Steps p.tables e below (s₁.setTop (entryFrame m #[.ref b, .int (Int32.ofNat o), .int (Int32.ofNat len)] 6)) (s₁.setTop (mkF m 0 #[.val (.ref b), .val (.int (Int32.ofNat o)), .val (.int (Int32.ofNat len)), .unset, .unset, .unset] [])) := entry rfl
  have c2 : Steps p.tables e below (s₁.setTop (entryFrame m #[.ref b, .int (Int32.ofNat o), .int (Int32.ofNat len)] 6)) (s₁.setTop (mkF m 1 #[.val (.ref b), .val (.int (Int32.ofNat o)), .val (.int (Int32.ofNat len)), .unset, .unset, .unset] [.int (Int32.ofNat len)])) := c1.trans (by
    refine XS.iloadN X0.here hexec rfl (hb hbytes d0) rfl ?_
    exact Steps.refl _)
  obtain ⟨T3, B3, X3, ba3, bs3, bv3, bh3, bf3, st3⟩ := X0.anew hexec (atype := .byte) (wk W (.arrayClass .byte)) rfl (by show len * 1 ≤ _; omega) (by omega) (g := (mkF m 1 #[.val (.ref b), .val (.int (Int32.ofNat o)), .val (.int (Int32.ofNat len)), .unset, .unset, .unset] [.int (Int32.ofNat len)])) rfl (hb hbytes d1) (rest := []) rfl (Nat.le_refl _) (by show 0 + len ≤ len; omega)
  rw [hh0] at ba3 st3
  have kp3 : XT.Kept s T3 := (XT.Kept.of_eq hh0).push bh3
  have hA3 := hA.keep X3.warmed.alike (kp3 _ _ hA.1.1)
  have hne : b ≠ s.heap.size := hA.1.ne
  have c4 : Steps p.tables e below (s₁.setTop (entryFrame m #[.ref b, .int (Int32.ofNat o), .int (Int32.ofNat len)] 6)) (T3.setTop (mkF m 3 #[.val (.ref b), .val (.int (Int32.ofNat o)), .val (.int (Int32.ofNat len)), .unset, .unset, .unset] [.ref s.heap.size])) := c2.trans (st3 _ (Steps.refl _))
  have c5 : Steps p.tables e below (s₁.setTop (entryFrame m #[.ref b, .int (Int32.ofNat o), .int (Int32.ofNat len)] 6)) (T3.setTop (mkF m 9 #[.val (.ref b), .val (.int (Int32.ofNat o)), .val (.int (Int32.ofNat len)), .val (.ref s.heap.size), .unset, .unset] [.int (Int32.ofNat len), .int 0, .ref s.heap.size, .int (Int32.ofNat o), .ref b])) := c4.trans (by
    refine XS.astoreN X3.here hexec rfl (hb hbytes d3) rfl rfl rfl ?_
    refine XS.aloadN X3.here hexec rfl (hb hbytes d4) rfl rfl ?_
    refine XS.iloadN X3.here hexec rfl (hb hbytes d5) rfl ?_
    refine XS.aloadN X3.here hexec rfl (hb hbytes d6) rfl rfl ?_
    refine iconstV X3.here hexec rfl 0 (hb hbytes d7) (by decide) ?_
    refine XS.iloadN X3.here hexec rfl (hb hbytes d8) rfl ?_
    exact Steps.refl _)
  obtain ⟨v6, T6, X6, E6, g6⟩ := X3.callS hexec (Cmp5.law l b A s.heap.size B3 o 0 len) hown (wks W (staticW U16 115 Cmp5.yN)) (wk W Cmp5.tab) (W := 0) (Nat.le_of_ble_eq_true rfl) (Nat.le_of_ble_eq_true rfl) (Nat.le_refl _) (by show 0 + len + 0 ≤ len; omega) (g := (mkF m 9 #[.val (.ref b), .val (.int (Int32.ofNat o)), .val (.int (Int32.ofNat len)), .val (.ref s.heap.size), .unset, .unset] [.int (Int32.ofNat len), .int (Int32.ofNat 0), .ref s.heap.size, .int (Int32.ofNat o), .ref b])) rfl (by rw [hml]; rfl) c5 (argsL := [.ref b, .int (Int32.ofNat o), .ref s.heap.size, .int (Int32.ofNat 0), .int (Int32.ofNat len)]) (rest := []) rfl rfl (by show 2 * 0 + 0 ≤ _; decide) (hb hbytes d9) (⟨rfl, hA3, ba3, hne, l1, by rw [bs3]; simp, hp⟩)
  obtain ⟨rfl, B6, p6, f6⟩ := E6
  have c7 : Steps p.tables e below (s₁.setTop (entryFrame m #[.ref b, .int (Int32.ofNat o), .int (Int32.ofNat len)] 6)) (T6.setTop (mkF m 12 #[.val (.ref b), .val (.int (Int32.ofNat o)), .val (.int (Int32.ofNat len)), .val (.ref s.heap.size), .unset, .unset] [.int (Int32.ofNat len)])) := g6
  have c8 : Steps p.tables e below (s₁.setTop (entryFrame m #[.ref b, .int (Int32.ofNat o), .int (Int32.ofNat len)] 6)) (T6.setTop (mkF m 58 #[.val (.ref b), .val (.int (Int32.ofNat o)), .val (.int (Int32.ofNat len)), .val (.ref s.heap.size), .val (.int (Int32.ofNat len)), .unset] [.ref s.heap.size])) := c7.trans (by
    refine XS.istore X6.here hexec rfl (hb hbytes d12) rfl rfl ?_
    refine XS.iload X6.here hexec rfl (hb hbytes d14) rfl ?_
    refine XS.iloadN X6.here hexec rfl (hb hbytes d16) rfl ?_
    refine XS.icmpYes X6.here hexec rfl (pc0 := 17) rfl (hb hbytes d17) rfl (ii_eq_t rfl) (by decide) rfl ?_
    refine XS.aloadN X6.here hexec rfl (hb hbytes d57) rfl rfl ?_
    exact Steps.refl _)
  have X8 := X6.wide (L' := []) (cells' := 1) (slots' := len) (fun x hx hlt => by
    simp only [List.nil_append, copyLocs, List.mem_map, List.mem_range] at hx
    obtain ⟨i, -, rfl⟩ := hx
    exact absurd hlt (Nat.lt_irrefl _)) (Nat.le_refl _) (by omega)
  exact ⟨T6, some (.ref s.heap.size), _, _, _, X8, rfl, rfl, rfl, (fun h => by cases h), ⟨⟨rfl, B6, ba3.like (X3.warmed.alike.symm.trans X6.warmed.alike) p6.1 f6.1 f6.2.1 f6.2.2.1, f6.2.1.trans bv3, by rw [X6.warmed.alike.findClass, f6.1]; exact bf3, by rw [f6.2.2.1, bs3]; simp, fun j hj => by rw [f6.2.2.2 j, if_pos (by omega)]; rfl, kp3.put p6 (Nat.le_refl _)⟩, by rw [p6.2.2, bh3, hh0]; simp⟩, fun fs hl => c8.trans (X8.areturnOut hexec rfl hret rfl (hb hbytes d58) hl)⟩
end Cmp3
namespace CodL
def yN : MethodName := ⟨"java/lang/StringUTF16", "coderFromArrayLen", "([BI)B"⟩
abbrev yB : ByteArray := jdk_52_method_15_code
theorem d0 : decode yB 0 = .ok (.iload_n 1, 1) := by decide +kernel
theorem d1 : decode yB 1 = .ok (.aload_n 0, 1) := by decide +kernel
theorem d2 : decode yB 2 = .ok (.arraylength, 1) := by decide +kernel
theorem d3 : decode yB 3 = .ok (.isub, 1) := by decide +kernel
theorem d4 : decode yB 4 = .ok (.bipush 31, 2) := by decide +kernel
theorem d6 : decode yB 6 = .ok (.iushr, 1) := by decide +kernel
theorem d7 : decode yB 7 = .ok (.i2b, 1) := by decide +kernel
theorem d8 : decode yB 8 = .ok (.ireturn, 1) := by decide +kernel
def site : List Cond := []
def tab : Cond := tabOf yN yB 2 (some .byte) site
def P (d : Addr) (B : Cell) (args : Array Value) (s : State) : Prop := args = #[.ref d, .int (Int32.ofNat B.slots.size)] ∧ Arr .byte d B s
def E (r : Option Value) (s u : State) : Prop := XT.PureE (some (.int 0)) r s u
/-- an array as long as the number of chars: LATIN1 -/
theorem law (l : Launch) (d : Addr) (B : Cell) : Law l yN 2 2 0 0 yB 2 (some .byte) site (P d B) E [] 0 0 := by
  refine Law.of_walk (plainFor_of_name (by decide +kernel)) (by decide +kernel) (by decide +kernel) (by decide) (fun _ _ h => by rw [h.1]; rfl) (fun _ U U' hal hh h => ⟨h.1, h.2.mv hal hh⟩) (fun r U U' V V' h1 hal h2 h => XT.PureE.mv r U U' V V' h1 hal h2 h) ?_
  intro p e s m args below meth c s₁ X0 hexec hbytes hml hret hlk hnm hown hh0 W hP
  obtain ⟨rfl, hB⟩ := hP
  have hB0 := hB.mv X0.warmed.alike hh0
  have c1 : Steps p.tables e below (s₁.setTop (entryFrame m #[.ref d, .int (Int32.ofNat B.slots.size)] 2)) (s₁.setTop (mkF m 0 #[.val (.ref d), .val (.int (Int32.ofNat B.slots.size))] [])) := entry rfl
  have c2 : Steps p.tables e below (s₁.setTop (entryFrame m #[.ref d, .int (Int32.ofNat B.slots.size)] 2)) (s₁.setTop (mkF m 2 #[.val (.ref d), .val (.int (Int32.ofNat B.slots.size))] [.ref d, .int (Int32.ofNat B.slots.size)])) := c1.trans (by
    refine XS.iloadN X0.here hexec rfl (hb hbytes d0) rfl ?_
    refine XS.aloadN X0.here hexec rfl (hb hbytes d1) rfl rfl ?_
    exact Steps.refl _)
  have c3 : Steps p.tables e below (s₁.setTop (entryFrame m #[.ref d, .int (Int32.ofNat B.slots.size)] 2)) (s₁.setTop (mkF m 8 #[.val (.ref d), .val (.int (Int32.ofNat B.slots.size))] [.int (lo8 (ushr (Int32.ofNat B.slots.size - Int32.ofNat B.slots.size) 31))])) := c2.trans (by
    refine X0.alen hexec hB0 rfl rfl (hb hbytes d2) ?_
    refine XS.isub X0.here hexec rfl (hb hbytes d3) rfl ?_
    refine bipushV X0.here hexec rfl 31 (hb hbytes d4) (by decide) ?_
    refine iushr X0.here hexec rfl (hb hbytes d6) rfl ?_
    refine i2b X0.here hexec rfl (hb hbytes d7) rfl ?_
    exact Steps.refl _)
  have e0 : lo8 (ushr (Int32.ofNat B.slots.size - Int32.ofNat B.slots.size) 31) = 0 := by rw [Int32.sub_self]; decide
  rw [e0] at c3
  exact ⟨s₁, some (.int 0), _, _, _, X0, rfl, rfl, rfl, (fun h => by cases h), ⟨rfl, hh0⟩, fun fs hl => c3.trans (X0.ireturnOut hexec hret rfl (Or.inr (Or.inr (Or.inl rfl))) (hb hbytes d8) hl)⟩
end CodL
/-- the String at a is Latin-1 over a new byte[] (the heap's one new cell): the low bytes of the len chars of A from o on; every cell but a is kept -/
def Got (a : Addr) (D : Cell) (fV fC : Field) (A : Cell) (o len : Nat) (r : Option Value) (s u : State) : Prop := r = none ∧ ∃ D' V : Cell, Blank "java/lang/String" a D' u ∧ Same D D' [fV.slot, fC.slot] ∧ D'.slots[fV.slot]? = some (.ref s.heap.size) ∧ D'.slots[fC.slot]? = some (.int 0) ∧ Arr .byte s.heap.size V u ∧ V.vm = .none ∧ u.vm.findClass "[B" = some V.cls ∧ V.slots.size = len ∧ (∀ j, j < len → V.slots[j]? = some (.int (lo8 (cv A (o + j))))) ∧ (∀ (y : Addr) (c : Cell), y ≠ a → s.heap[y]? = some c → u.heap[y]? = some c) ∧ u.heap.size = s.heap.size + 1
theorem Got.mv {a : Addr} {D A : Cell} {fV fC : Field} {o len : Nat} : ∀ r (U U' V V' : State), U'.heap = U.heap → V.vm.Alike V'.vm → V'.heap = V.heap → Got a D fV fC A o len r U V → Got a D fV fC A o len r U' V' :=
  fun r U U' V V' h1 hal h2 ⟨e0, D', X, a1, a2, a3, a4, a5, a6, a7, a8, a9, a10, a11⟩ => ⟨e0, D', X, a1.mv hal h2, a2, by rw [h1]; exact a3, a4, by rw [h1]; exact a5.mv hal h2, a6, by rw [hal.findClass]; exact a7, a8, a9, by rw [h1, h2]; exact a10, by rw [h1, h2]; exact a11⟩
namespace New4
def yN : MethodName := ⟨"java/lang/String", "<init>", "([CIILjava/lang/Void;)V"⟩
abbrev yB : ByteArray := jdk_42_method_149_code
theorem d0 : decode yB 0 = .ok (.aload_n 0, 1) := by decide +kernel
theorem d1 : decode yB 1 = .ok (.invokespecial 1, 3) := by decide +kernel
theorem d4 : decode yB 4 = .ok (.iload_n 3, 1) := by decide +kernel
theorem d5 : decode yB 5 = .ok (.ifCond (.ne) 22, 3) := by decide +kernel
theorem d27 : decode yB 27 = .ok (.getstatic 38, 3) := by decide +kernel
theorem d30 : decode yB 30 = .ok (.ifCond (.eq) 28, 3) := by decide +kernel
theorem d33 : decode yB 33 = .ok (.aload_n 1, 1) := by decide +kernel
theorem d34 : decode yB 34 = .ok (.iload_n 2, 1) := by decide +kernel
theorem d35 : decode yB 35 = .ok (.iload_n 3, 1) := by decide +kernel
theorem d36 : decode yB 36 = .ok (.invokestatic 177, 3) := by decide +kernel
theorem d39 : decode yB 39 = .ok (.astore 5, 2) := by decide +kernel
theorem d41 : decode yB 41 = .ok (.aload_n 0, 1) := by decide +kernel
theorem d42 : decode yB 42 = .ok (.aload 5, 2) := by decide +kernel
theorem d44 : decode yB 44 = .ok (.iload_n 3, 1) := by decide +kernel
theorem d45 : decode yB 45 = .ok (.invokestatic 47, 3) := by decide +kernel
theorem d48 : decode yB 48 = .ok (.putfield 15, 3) := by decide +kernel
theorem d51 : decode yB 51 = .ok (.aload_n 0, 1) := by decide +kernel
theorem d52 : decode yB 52 = .ok (.aload 5, 2) := by decide +kernel
theorem d54 : decode yB 54 = .ok (.putfield 9, 3) := by decide +kernel
theorem d57 : decode yB 57 = .ok (.return_, 1) := by decide +kernel
def site : List Cond := [.fieldLink "java/lang/String" 38 "java/lang/String" "COMPACT_STRINGS" "Z", Cmp3.tab, CodL.tab, .laysFinal "java/lang/String" "java/lang/String" "value" "[B", .fieldLink "java/lang/String" 9 "java/lang/String" "value" "[B", .laysFinal "java/lang/String" "java/lang/String" "coder" "B", .fieldLink "java/lang/String" 15 "java/lang/String" "coder" "B"] ++ objW "java/lang/String" 1 ++ staticW "java/lang/String" 177 Cmp3.yN ++ staticW "java/lang/String" 47 CodL.yN
def tab : Cond := tabOf yN yB 6 none site
def P (a : Addr) (D : Cell) (fV fC : Field) (b : Addr) (A : Cell) (z : Int32) (o len : Nat) (args : Array Value) (s : State) : Prop := args = #[.ref a, .ref b, .int (Int32.ofNat o), .int (Int32.ofNat len), .null] ∧ Blank "java/lang/String" a D s ∧ Found "java/lang/String" "value" "[B" fV s ∧ Found "java/lang/String" "coder" "B" fC s ∧ Ch b A s ∧ StaticIs s "java/lang/String" "COMPACT_STRINGS" "Z" (.int z) ∧ ¬ z = 0 ∧ 0 < len ∧ o + len ≤ A.slots.size ∧ len ≤ 536870912 ∧ ∀ i, i < len → ¬ 255 < cv A (o + i)
def E (a : Addr) (D : Cell) (fV fC : Field) (A : Cell) (o len : Nat) (r : Option Value) (s u : State) : Prop := Got a D fV fC A o len r s u
/-- len > 0, no char of the range above 255: a Latin-1 String of their low bytes -/
theorem law (l : Launch) (a : Addr) (D : Cell) (fV fC : Field) (b : Addr) (A : Cell) (z : Int32) (o len : Nat) : Law l yN 5 4 2 35 yB 6 none site (P a D fV fC b A z o len) (E a D fV fC A o len) [⟨a, fC.slot⟩, ⟨a, fV.slot⟩] 1 len := by
  refine Law.of_walk (plainFor_of_name (by decide +kernel)) (by decide +kernel) (by decide +kernel) (by decide) (fun _ _ h => by rw [h.1]; rfl) (fun _ U U' hal hh h => ⟨h.1, h.2.1.mv hal hh, h.2.2.1.al hal, h.2.2.2.1.al hal, h.2.2.2.2.1.mv hal hh, h.2.2.2.2.2.1.there hal hh, h.2.2.2.2.2.2⟩) (fun r U U' V V' h1 hal h2 h => Got.mv r U U' V V' h1 hal h2 h) ?_
  intro p e s m args below meth c s₁ X0 hexec hbytes hml hret hlk hnm hown hh0 W hP
  obtain ⟨rfl, hB, f1, f2, hA, s1, hz, l0, l1, l2, hp⟩ := hP
  have a31 := hA.1.2.2.2
  have c1 : Steps p.tables e below (s₁.setTop (entryFrame m #[.ref a, .ref b, .int (Int32.ofNat o), .int (Int32.ofNat len), .null] 6)) (s₁.setTop (mkF m 0 #[.val (.ref a), .val (.ref b), .val (.int (Int32.ofNat o)), .val (.int (Int32.ofNat len)), .val .null, .unset] [])) := entry rfl
  have c2 : Steps p.tables e below (s₁.setTop (entryFrame m #[.ref a, .ref b, .int (Int32.ofNat o), .int (Int32.ofNat len), .null] 6)) (s₁.setTop (mkF m 1 #[.val (.ref a), .val (.ref b), .val (.int (Int32.ofNat o)), .val (.int (Int32.ofNat len)), .val .null, .unset] [.ref a])) := c1.trans (by
    refine XS.aloadN X0.here hexec rfl (hb hbytes d0) rfl rfl ?_
    exact Steps.refl _)
  obtain ⟨T3, X3, q3, st3⟩ := X0.oinit hexec hown (wks W (objW "java/lang/String" 1)) (g := (mkF m 1 #[.val (.ref a), .val (.ref b), .val (.int (Int32.ofNat o)), .val (.int (Int32.ofNat len)), .val .null, .unset] [.ref a])) rfl (by rw [hml]; rfl) (rest := []) rfl (hb hbytes d1) (W := 0) (by show 2 * 0 + 0 ≤ _; decide) (Nat.le_of_ble_eq_true rfl) (Nat.le_of_ble_eq_true rfl)
  have hh3 := q3.trans hh0
  have c4 : Steps p.tables e below (s₁.setTop (entryFrame m #[.ref a, .ref b, .int (Int32.ofNat o), .int (Int32.ofNat len), .null] 6)) (T3.setTop (mkF m 27 #[.val (.ref a), .val (.ref b), .val (.int (Int32.ofNat o)), .val (.int (Int32.ofNat len)), .val .null, .unset] [])) := (c2.trans (st3 _ (Steps.refl _))).trans (by
    refine XS.iloadN X3.here hexec rfl (hb hbytes d4) rfl ?_
    refine XS.ifYes X3.here hexec rfl (pc0 := 5) rfl (hb hbytes d5) rfl (i0_ne_t (nz32 (by omega) l0)) (by decide) rfl ?_
    exact Steps.refl _)
  obtain ⟨T5, X5, q5, st5⟩ := X3.sget hexec hown (wk W (.fieldLink "java/lang/String" 38 "java/lang/String" "COMPACT_STRINGS" "Z")) s1 (fun _ _ h => by rw [hh3]; exact h) (g := (mkF m 27 #[.val (.ref a), .val (.ref b), .val (.int (Int32.ofNat o)), .val (.int (Int32.ofNat len)), .val .null, .unset] [])) rfl (hb hbytes d27)
  have hh5 := q5.trans hh3
  have c6 : Steps p.tables e below (s₁.setTop (entryFrame m #[.ref a, .ref b, .int (Int32.ofNat o), .int (Int32.ofNat len), .null] 6)) (T5.setTop (mkF m 30 #[.val (.ref a), .val (.ref b), .val (.int (Int32.ofNat o)), .val (.int (Int32.ofNat len)), .val .null, .unset] [.int z])) := c4.trans (st5 _ (Steps.refl _))
  have c7 : Steps p.tables e below (s₁.setTop (entryFrame m #[.ref a, .ref b, .int (Int32.ofNat o), .int (Int32.ofNat len), .null] 6)) (T5.setTop (mkF m 36 #[.val (.ref a), .val (.ref b), .val (.int (Int32.ofNat o)), .val (.int (Int32.ofNat len)), .val .null, .unset] [.int (Int32.ofNat len), .int (Int32.ofNat o), .ref b])) := c6.trans (by
    refine XS.ifNo X5.here hexec rfl (hb hbytes d30) rfl (i0_eq_f hz) ?_
    refine XS.aloadN X5.here hexec rfl (hb hbytes d33) rfl rfl ?_
    refine XS.iloadN X5.here hexec rfl (hb hbytes d34) rfl ?_
    refine XS.iloadN X5.here hexec rfl (hb hbytes d35) rfl ?_
    exact Steps.refl _)
  obtain ⟨v8, T8, X8, E8, g8⟩ := X5.callS hexec (Cmp3.law l b A o len) hown (wks W (staticW "java/lang/String" 177 Cmp3.yN)) (wk W Cmp3.tab) (W := 0) (Nat.le_of_ble_eq_true rfl) (Nat.le_of_ble_eq_true rfl) (Nat.le_refl _) (by show 0 + len ≤ len; omega) (g := (mkF m 36 #[.val (.ref a), .val (.ref b), .val (.int (Int32.ofNat o)), .val (.int (Int32.ofNat len)), .val .null, .unset] [.int (Int32.ofNat len), .int (Int32.ofNat o), .ref b])) rfl (by rw [hml]; rfl) c7 (argsL := [.ref b, .int (Int32.ofNat o), .int (Int32.ofNat len)]) (rest := []) rfl rfl (by show 2 * 0 + 0 ≤ _; decide) (hb hbytes d36) (⟨rfl, hA.mv X5.warmed.alike hh5, l1, l2, hp⟩)
  obtain ⟨e8, z8⟩ := E8
  obtain ⟨rfl, N, n1, n2, n3, n4, n5, n6⟩ := NewArr.mv _ T5 s _ _ hh5.symm (Vm.Alike.refl _) rfl e8
  rw [hh5] at z8
  have hB1 := hB.keep X8.warmed.alike (n6 _ _ hB.1)
  have hne : s.heap.size ≠ a := (Nat.ne_of_lt (Array.getElem?_eq_some_iff.mp hB.1).1).symm
  have c9 : Steps p.tables e below (s₁.setTop (entryFrame m #[.ref a, .ref b, .int (Int32.ofNat o), .int (Int32.ofNat len), .null] 6)) (T8.setTop (mkF m 39 #[.val (.ref a), .val (.ref b), .val (.int (Int32.ofNat o)), .val (.int (Int32.ofNat len)), .val .null, .unset] [.ref s.heap.size])) := g8
  have c10 : Steps p.tables e below (s₁.setTop (entryFrame m #[.ref a, .ref b, .int (Int32.ofNat o), .int (Int32.ofNat len), .null] 6)) (T8.setTop (mkF m 45 #[.val (.ref a), .val (.ref b), .val (.int (Int32.ofNat o)), .val (.int (Int32.ofNat len)), .val .null, .val (.ref s.heap.size)] [.int (Int32.ofNat N.slots.size), .ref s.heap.size, .ref a])) := by
    have hc : Steps p.tables e below (s₁.setTop (entryFrame m #[.ref a, .ref b, .int (Int32.ofNat o), .int (Int32.ofNat len), .null] 6)) (T8.setTop (mkF m 45 #[.val (.ref a), .val (.ref b), .val (.int (Int32.ofNat o)), .val (.int (Int32.ofNat len)), .val .null, .val (.ref s.heap.size)] [.int (Int32.ofNat len), .ref s.heap.size, .ref a])) := c9.trans (by
      refine XS.astore X8.here hexec rfl (hb hbytes d39) rfl rfl rfl ?_
      refine XS.aloadN X8.here hexec rfl (hb hbytes d41) rfl rfl ?_
      refine XS.aload X8.here hexec rfl (hb hbytes d42) rfl rfl ?_
      refine XS.iloadN X8.here hexec rfl (hb hbytes d44) rfl ?_
      exact Steps.refl _)
    rw [n4]; exact hc
  obtain ⟨v11, T11, X11, E11, g11⟩ := X8.callS hexec (CodL.law l s.heap.size N) hown (wks W (staticW "java/lang/String" 47 CodL.yN)) (wk W CodL.tab) (W := 1) (Nat.le_of_ble_eq_true rfl) (Nat.le_of_ble_eq_true rfl) (Nat.le_refl _) (by show 0 + len + 0 ≤ len; omega) (g := (mkF m 45 #[.val (.ref a), .val (.ref b), .val (.int (Int32.ofNat o)), .val (.int (Int32.ofNat len)), .val .null, .val (.ref s.heap.size)] [.int (Int32.ofNat N.slots.size), .ref s.heap.size, .ref a])) rfl (by rw [hml]; rfl) c10 (argsL := [.ref s.heap.size, .int (Int32.ofNat N.slots.size)]) (rest := [.ref a]) rfl rfl (by show 2 * 0 + (1 + 0) ≤ _; decide) (hb hbytes d45) (⟨rfl, n1⟩)
  obtain ⟨rfl, q11⟩ := E11
  have hB11 := hB1.mv (X8.warmed.alike.symm.trans X11.warmed.alike) q11
  have c12 : Steps p.tables e below (s₁.setTop (entryFrame m #[.ref a, .ref b, .int (Int32.ofNat o), .int (Int32.ofNat len), .null] 6)) (T11.setTop (mkF m 48 #[.val (.ref a), .val (.ref b), .val (.int (Int32.ofNat o)), .val (.int (Int32.ofNat len)), .val .null, .val (.ref s.heap.size)] [.int 0, .ref a])) := g11
  obtain ⟨T13, X13, p13, bl13, sl13, st13⟩ := X11.finit hexec hown (wk W (.fieldLink "java/lang/String" 15 "java/lang/String" "coder" "B")) (Or.inr ⟨_, (wk W (.laysFinal "java/lang/String" "java/lang/String" "coder" "B"))⟩) (Or.inl ⟨rfl, hnm⟩) f2 (Or.inl rfl) hB11 (t := .byte) (by decide +kernel) rfl (g := (mkF m 48 #[.val (.ref a), .val (.ref b), .val (.int (Int32.ofNat o)), .val (.int (Int32.ofNat len)), .val .null, .val (.ref s.heap.size)] [.int 0, .ref a])) rfl (rest := []) rfl (hb hbytes d48)
  have c14 : Steps p.tables e below (s₁.setTop (entryFrame m #[.ref a, .ref b, .int (Int32.ofNat o), .int (Int32.ofNat len), .null] 6)) (T13.setTop (mkF m 54 #[.val (.ref a), .val (.ref b), .val (.int (Int32.ofNat o)), .val (.int (Int32.ofNat len)), .val .null, .val (.ref s.heap.size)] [.ref s.heap.size, .ref a])) := (c12.trans (st13 _ (Steps.refl _))).trans (by
    refine XS.aloadN X13.here hexec rfl (hb hbytes d51) rfl rfl ?_
    refine XS.aload X13.here hexec rfl (hb hbytes d52) rfl rfl ?_
    exact Steps.refl _)
  obtain ⟨T15, X15, p15, bl15, sl15, st15⟩ := X13.finit hexec hown (wk W (.fieldLink "java/lang/String" 9 "java/lang/String" "value" "[B")) (Or.inr ⟨_, (wk W (.laysFinal "java/lang/String" "java/lang/String" "value" "[B"))⟩) (Or.inl ⟨rfl, hnm⟩) f1 (Or.inl rfl) bl13 (t := (.array .byte)) (by decide +kernel) rfl (g := (mkF m 54 #[.val (.ref a), .val (.ref b), .val (.int (Int32.ofNat o)), .val (.int (Int32.ofNat len)), .val .null, .val (.ref s.heap.size)] [.ref s.heap.size, .ref a])) rfl (rest := []) rfl (hb hbytes d54)
  have c16 : Steps p.tables e below (s₁.setTop (entryFrame m #[.ref a, .ref b, .int (Int32.ofNat o), .int (Int32.ofNat len), .null] 6)) (T15.setTop (mkF m 57 #[.val (.ref a), .val (.ref b), .val (.int (Int32.ofNat o)), .val (.int (Int32.ofNat len)), .val .null, .val (.ref s.heap.size)] [])) := c14.trans (st15 _ (Steps.refl _))
  have ap := apart (Or.inr ⟨_, (wk W (.laysFinal "java/lang/String" "java/lang/String" "value" "[B"))⟩) (Or.inr ⟨_, (wk W (.laysFinal "java/lang/String" "java/lang/String" "coder" "B"))⟩) f1 f2 (t₁ := .array .byte) (t₂ := .byte) (by decide +kernel) (by decide +kernel) (by decide)
  have al := X8.warmed.alike.symm.trans X15.warmed.alike
  have n7 : T11.heap[s.heap.size]? = some N := by rw [q11]; exact n1.1
  exact ⟨T15, none, _, _, _, X15, by simp, rfl, by omega, (fun _ => rfl), ⟨rfl, _, N, bl15, ((Same.refl D _).set _ (by simp)).set _ (by simp), sl15, (Cell.slots_setSlot_ne _ ap).trans sl13, n1.keep al (p15.other hne (p13.other hne n7)), n2, by rw [al.findClass]; exact n3, n4, n5, fun y c h1 h2 => p15.other h1 (p13.other h1 (by rw [q11]; exact n6 y c h2)), by rw [p15.2.2, p13.2.2, q11]; exact z8⟩, fun fs hl => c16.trans (X15.returnOut hexec hret (hb hbytes d57) hl)⟩
end New4
namespace New1
def yN : MethodName := ⟨"java/lang/String", "<init>", "([C)V"⟩
abbrev yB : ByteArray := jdk_42_method_3_code
theorem d0 : decode yB 0 = .ok (.aload_n 0, 1) := by decide +kernel
theorem d1 : decode yB 1 = .ok (.aload_n 1, 1) := by decide +kernel
theorem d2 : decode yB 2 = .ok (.iconst 0, 1) := by decide +kernel
theorem d3 : decode yB 3 = .ok (.aload_n 1, 1) := by decide +kernel
theorem d4 : decode yB 4 = .ok (.arraylength, 1) := by decide +kernel
theorem d5 : decode yB 5 = .ok (.aconst_null, 1) := by decide +kernel
theorem d6 : decode yB 6 = .ok (.invokespecial 27, 3) := by decide +kernel
theorem d9 : decode yB 9 = .ok (.return_, 1) := by decide +kernel
def site : List Cond := [New4.tab] ++ initW "java/lang/String" 27 New4.yN
def tab : Cond := tabOf yN yB 2 none site
def P (a : Addr) (D : Cell) (fV fC : Field) (b : Addr) (A : Cell) (z : Int32) (args : Array Value) (s : State) : Prop := args = #[.ref a, .ref b] ∧ Blank "java/lang/String" a D s ∧ Found "java/lang/String" "value" "[B" fV s ∧ Found "java/lang/String" "coder" "B" fC s ∧ Ch b A s ∧ StaticIs s "java/lang/String" "COMPACT_STRINGS" "Z" (.int z) ∧ ¬ z = 0 ∧ 0 < A.slots.size ∧ A.slots.size ≤ 536870912 ∧ ∀ i, i < A.slots.size → ¬ 255 < cv A i
def E (a : Addr) (D : Cell) (fV fC : Field) (A : Cell) (r : Option Value) (s u : State) : Prop := Got a D fV fC A 0 A.slots.size r s u
/-- new String(chars), not empty, no char above 255: a Latin-1 String of their low bytes -/
theorem law (l : Launch) (a : Addr) (D : Cell) (fV fC : Field) (b : Addr) (A : Cell) (z : Int32) : Law l yN 2 1 3 52 yB 2 none site (P a D fV fC b A z) (E a D fV fC A) [⟨a, fC.slot⟩, ⟨a, fV.slot⟩] 1 A.slots.size := by
  refine Law.of_walk (plainFor_of_name (by decide +kernel)) (by decide +kernel) (by decide +kernel) (by decide) (fun _ _ h => by rw [h.1]; rfl) (fun _ U U' hal hh h => ⟨h.1, h.2.1.mv hal hh, h.2.2.1.al hal, h.2.2.2.1.al hal, h.2.2.2.2.1.mv hal hh, h.2.2.2.2.2.1.there hal hh, h.2.2.2.2.2.2⟩) (fun r U U' V V' h1 hal h2 h => Got.mv r U U' V V' h1 hal h2 h) ?_
  intro p e s m args below meth c s₁ X0 hexec hbytes hml hret hlk hnm hown hh0 W hP
  obtain ⟨rfl, hB, f1, f2, hA, s1, hz, l0, l2, hp⟩ := hP
  have c1 : Steps p.tables e below (s₁.setTop (entryFrame m #[.ref a, .ref b] 2)) (s₁.setTop (mkF m 0 #[.val (.ref a), .val (.ref b)] [])) := entry rfl
  have c2 : Steps p.tables e below (s₁.setTop (entryFrame m #[.ref a, .ref b] 2)) (s₁.setTop (mkF m 6 #[.val (.ref a), .val (.ref b)] [.null, .int (Int32.ofNat A.slots.size), .int 0, .ref b, .ref a])) := c1.trans (by
    refine XS.aloadN X0.here hexec rfl (hb hbytes d0) rfl rfl ?_
    refine XS.aloadN X0.here hexec rfl (hb hbytes d1) rfl rfl ?_
    refine iconstV X0.here hexec rfl 0 (hb hbytes d2) (by decide) ?_
    refine XS.aloadN X0.here hexec rfl (hb hbytes d3) rfl rfl ?_
    refine X0.alen hexec (hA.1.mv X0.warmed.alike hh0) rfl rfl (hb hbytes d4) ?_
    refine XS.aconstNull X0.here hexec rfl (hb hbytes d5) ?_
    exact Steps.refl _)
  obtain ⟨v3, T3, X3, E3, g3⟩ := X0.callN hexec (New4.law l a D fV fC b A z 0 A.slots.size) rfl hown (wks W (initW "java/lang/String" 27 New4.yN)) (W New4.tab (by simp only [site, List.mem_cons, List.mem_append, true_or, or_true])) (W := 0) (Nat.le_of_ble_eq_true rfl) (Nat.le_of_ble_eq_true rfl) (Nat.le_refl _) (by show 0 + A.slots.size ≤ A.slots.size; omega) (g := (mkF m 6 #[.val (.ref a), .val (.ref b)] [.null, .int (Int32.ofNat A.slots.size), .int (Int32.ofNat 0), .ref b, .ref a])) rfl (by rw [hml]; rfl) c2 (argsL := [.ref b, .int (Int32.ofNat 0), .int (Int32.ofNat A.slots.size), .null]) (rest := []) rfl rfl (by show 2 * 0 + 0 ≤ _; decide) (hb hbytes d6) (⟨rfl, hB.mv X0.warmed.alike hh0, f1.al X0.warmed.alike, f2.al X0.warmed.alike, hA.mv X0.warmed.alike hh0, s1.there X0.warmed.alike hh0, hz, l0, by omega, l2, fun i hi => by rw [Nat.zero_add]; exact hp i hi⟩)
  have e0 := Got.mv _ s₁ s _ _ hh0.symm (Vm.Alike.refl _) rfl E3
  obtain rfl := e0.1
  have c4 : Steps p.tables e below (s₁.setTop (entryFrame m #[.ref a, .ref b] 2)) (T3.setTop (mkF m 9 #[.val (.ref a), .val (.ref b)] [])) := g3
  exact ⟨T3, none, _, _, _, X3, by simp, rfl, by omega, (fun _ => rfl), e0, fun fs hl => c4.trans (X3.returnOut hexec hret (hb hbytes d9) hl)⟩
theorem pays {l : Launch} {R : Room} {p : Program} {e : Env} {below : List Frame} {s : State} {sargs : Array Value} {len W : Nat} (a : Addr) (D : Cell) (fV fC : Field) (b : Addr) (A : Cell) (z : Int32) (htab : tab.before sargs s = true) (hfr : 4 ≤ R.frames) (hlo : W + 65 ≤ R.locals) :
    Back l R p e below s sargs yN len W (fun A₁ a₁ => A₁.cells + 1 ≤ R.cells ∧ A₁.slots + A.slots.size ≤ R.slots ∧ P a D fV fC b A z a₁ A₁.U) (fun A₁ _ v₁ B₁ => E a D fV fC A v₁ A₁.U B₁.U ∧ B₁.locs = A₁.locs ++ [⟨a, fC.slot⟩, ⟨a, fV.slot⟩] ∧ B₁.cells = A₁.cells + 1 ∧ B₁.slots = A₁.slots + A.slots.size) :=
  (law l a D fV fC b A z).pays htab hfr (by omega)
end New1
/-- the byte, read back as charAt reads it, is the char -/
theorem lo8_mask {x : Int32} (h0 : ¬ x < 0) (h1 : ¬ 255 < x) : lo8 x &&& 255 = x := by
  have t : ∀ k : Fin 256, lo8 (Int32.ofNat k.val) &&& 255 = Int32.ofNat k.val := by decide +kernel
  rw [Int32.lt_iff_toInt_lt] at h0 h1
  have e0 : (0 : Int32).toInt = 0 := rfl
  have e1 : (255 : Int32).toInt = 255 := rfl
  obtain ⟨k, hk⟩ : ∃ k : Nat, x.toInt = k := ⟨x.toInt.toNat, by omega⟩
  have hx : x = Int32.ofNat k := Int32.toInt_inj.mp (by rw [hk, Int32.toInt_ofNat_small (by omega)])
  rw [hx]
  exact t ⟨k, by omega⟩
end StrChars
namespace StrChars.Road
open Jvm Sem ClassFile Op Lib Jvm.Stand Jvm.Free Jvm.Free.XT
open Jvm.Lib.Cold (StaticIs)
abbrev ST : String := "java/lang/String"
/-- every table word that New1's law asks, flat -/
abbrev words : List Jvm.Cond := [.code New1.yN New1.yB 2 none, .initialized ST, .methodLink ST 27 New4.yN, .instanceMethod New4.yN,
  .code New4.yN New4.yB 6 none, .fieldLink ST 38 ST "COMPACT_STRINGS" "Z", .laysFinal ST ST "value" "[B", .fieldLink ST 9 ST "value" "[B", .laysFinal ST ST "coder" "B", .fieldLink ST 15 ST "coder" "B",
  .methodLink ST 1 Lib.objectInit, .instanceMethod Lib.objectInit, .code Lib.objectInit ⟨#[0xb1]⟩ 1 none, .methodLink ST 177 Cmp3.yN, .static Cmp3.yN, .methodLink ST 47 CodL.yN, .static CodL.yN,
  .code Cmp3.yN Cmp3.yB 6 (some (.array .byte)), .initialized U16, .arrayClass .byte, .methodLink U16 115 Cmp5.yN, .static Cmp5.yN, .code Cmp5.yN Cmp5.yB 7 (some .int), .code CodL.yN CodL.yB 2 (some .byte)]
theorem tab_of {a : Array Value} {s : State} (h : ∀ w ∈ words, w.before a s = true) : New1.tab.before a s = true := by
  have h5 : Cmp5.tab.before a s = true := unparts (wk h (.code Cmp5.yN Cmp5.yB 7 (some .int))) (wks h (.initialized Cmp5.yN.cls :: Cmp5.site))
  have hc : CodL.tab.before a s = true := unparts (wk h (.code CodL.yN CodL.yB 2 (some .byte))) (wks h (.initialized CodL.yN.cls :: CodL.site))
  have q5 : ∀ w ∈ Cmp5.tab :: words, w.before a s = true := fun w hw => (List.mem_cons.mp hw).elim (fun e => e ▸ h5) (h w)
  have h3 : Cmp3.tab.before a s = true := unparts (wk q5 (.code Cmp3.yN Cmp3.yB 6 (some (.array .byte)))) (wks q5 (.initialized Cmp3.yN.cls :: Cmp3.site))
  have q3 : ∀ w ∈ Cmp3.tab :: CodL.tab :: words, w.before a s = true := fun w hw => (List.mem_cons.mp hw).elim (fun e => e ▸ h3) fun hw => (List.mem_cons.mp hw).elim (fun e => e ▸ hc) (h w)
  have h4 : New4.tab.before a s = true := unparts (wk q3 (.code New4.yN New4.yB 6 none)) (wks q3 (.initialized New4.yN.cls :: New4.site))
  have q4 : ∀ w ∈ New4.tab :: words, w.before a s = true := fun w hw => (List.mem_cons.mp hw).elim (fun e => e ▸ h4) (h w)
  exact unparts (wk q4 (.code New1.yN New1.yB 2 none)) (wks q4 (.initialized New1.yN.cls :: New1.site))
/-- the words ride from the start Z to the walk's own state -/
theorem moved {Z s : State} {a0 args : Array Value} (hZ : Z.Warmed39 s.vm) (hw : ∀ d ∈ words, d.before a0 Z = true) : ∀ d ∈ words, d.before args s = true := fun d hd => by
  have q := hw d hd
  have t : ∀ d ∈ words, d = .arrayClass .byte ∨ (d.onTables && d.keepsFace) = true := by decide +kernel
  rcases t d hd with rfl | t
  · exact RoadKit.mvA hZ q
  · exact RoadKit.mv hZ q t
/-- WHAT COMES BACK, over the tables of the start Z: h the heap at the call, h' behind it -/
def Q (Z : State) (x : Addr) (A : Cell) (h : Heap) (v : Option Value) (h' : Heap) (L : List Loc) : Prop := v = none ∧ (∀ y ∈ L, y.base = x) ∧ RoadKit.Keep h h' [x] ∧ h'.size = h.size + 1 ∧ RoadKit.Exa Z h' x ST ∧ RoadKit.Fld Z h' x ST "value" "[B" (.ref h.size) ∧ RoadKit.Fld Z h' x ST "coder" "B" (.int 0) ∧
  (∃ V : Cell, RoadKit.Arr Z h' h.size V .byte ∧ V.vm = .none ∧ Z.vm.findClass "[B" = some V.cls ∧ V.slots.size = A.slots.size ∧ ∀ j, j < A.slots.size → V.slots[j]? = some (.int (lo8 (cv A j)))) ∧
  ∀ (O n d : String) (w : Value), RoadKit.Fld Z h x O n d w → RoadKit.slotOf Z O n d ≠ RoadKit.slotOf Z ST "value" "[B" → RoadKit.slotOf Z O n d ≠ RoadKit.slotOf Z ST "coder" "B" → RoadKit.Fld Z h' x O n d w
/-- **new String(chars) AT A CALL, IN THE ROAD'S FORM**: for specialBack behind newO: x the fresh String, b the char[] with the cell A -/
theorem back {p : Program} {l : Launch} {e : Env} {R : Room} {s : State} {args : Array Value} {below : List Frame} {len W : Nat} {Z : State} {a0 : Array Value} {h : Heap} (hZ : Z.Warmed39 s.vm) (hw : ∀ d ∈ words, d.before a0 Z = true) {kI : Nat} (wi : (Jvm.Cond.instantiable ST kI).before a0 Z = true)
    {x b : Addr} {A : Cell} {z : Int32} {v0 c0 : Value} (E : RoadKit.Exa Z h x ST) (V : RoadKit.Fld Z h x ST "value" "[B" v0) (C : RoadKit.Fld Z h x ST "coder" "B" c0) (K : RoadKit.Arr Z h b A .char) (hty : Typed .char A) (S : RoadKit.Sta Z h ST "COMPACT_STRINGS" "Z" (.int z)) (hz : ¬ z = 0)
    (l0 : 0 < A.slots.size) (l2 : A.slots.size ≤ 536870912) (hp : ∀ i, i < A.slots.size → ¬ 255 < cv A i) (hfr : 4 ≤ R.frames) (hlo : W + 65 ≤ R.locals) :
    Back l R p e below s args New1.yN len W (fun P a => a = #[.ref x, .ref b] ∧ P.U.heap = h ∧ P.cells + 1 ≤ R.cells ∧ P.slots + A.slots.size ≤ R.slots)
      (fun P _ v B => ∃ L, Q Z x A h v B.U.heap L ∧ B.locs = P.locs ++ L ∧ B.cells = P.cells + 1 ∧ B.slots = P.slots + A.slots.size) := by
  intro m meth c P g ig mk a X hg hsize hdg hW hn hp'
  obtain ⟨rfl, rfl, r1, r2⟩ := hp'
  have al : Z.vm.Alike P.U.vm := hZ.alike.trans X.warmed.alike
  obtain ⟨D, cfV, kV, iV, fV, hD, gV, stV, knV, obV, asV, slV⟩ := id V
  obtain ⟨D', cfC, kC, iC, fC, hD', gC, stC, -, -, asC, slC⟩ := id C
  cases hD.symm.trans hD'
  obtain ⟨D2, kD, e1, e2, e3, e4, e5⟩ := id E
  cases hD.symm.trans e1
  obtain ⟨c2, k2, i1, i2, i3, -⟩ := Cond.instantiable_spec wi
  cases e2.symm.trans i1
  cases e3.symm.trans i2
  obtain ⟨kU, u1, u2⟩ := al.2.2 _ _ e3
  have hB : Blank ST x D P.U := ⟨hD, ⟨knV, fun q hq => by rw [hq] at obV; cases obV⟩, by rw [al.findClass]; exact e2, kU, u1, by rw [u2]; exact i3, by rw [u2]; exact e5 i3⟩
  have F1 : Found ST "value" "[B" fV P.U := ⟨SBG.found_only al ⟨cfV, kV, iV, gV⟩, stV⟩
  have F2 : Found ST "coder" "B" fC P.U := ⟨SBG.found_only al ⟨cfC, kC, iC, gC⟩, stC⟩
  have hA : Ch b A P.U := ⟨⟨K.1, State.isArrayOf_alike al K.2.1, K.2.2, by omega⟩, hty⟩
  have hS : StaticIs P.U ST "COMPACT_STRINGS" "Z" (.int z) := by
    obtain ⟨cfS, iS, kS, fS, st, cS, t1, t2, t3, t4, t5, t6, t7⟩ := S
    exact StaticIs.there (s := { Z with heap := P.U.heap }) ⟨cfS, iS, kS, fS, st, cS, t1, t2, t3, t4, t5, (fun q => by rw [q] at t6; cases t6), t7⟩ al rfl
  obtain ⟨v, B, X', ⟨⟨hv, E', V', q1, q2, q3, q4, q5, q6, q7, q8, q9, q10, q11⟩, hl, hc, hs⟩, st⟩ := New1.pays x D fV fC b A z (tab_of (moved hZ hw)) hfr hlo m meth c P g ig mk _ X hg hsize hdg hW hn ⟨r1, r2, rfl, hB, F1, F2, hA, hS, hz, l0, l2, hp⟩
  have al' : Z.vm.Alike B.U.vm := hZ.alike.trans X'.warmed.alike
  have hsz : E'.slots.size = D.slots.size := by
    obtain ⟨-, -, -, kB, w1, w2, w3⟩ := q1
    obtain ⟨kB', y1, y2⟩ := al'.2.2 _ _ e3
    rw [q2.2.1] at w1
    cases w1.symm.trans y1
    rw [w3, e5 i3, y2]
  refine ⟨v, B, X', ⟨_, ⟨hv, ?_, ⟨by omega, fun y cy hy hn' => q10 y cy (by simpa using hn') hy, fun y cy hy => ?_⟩, q11, ⟨E', _, q1.1, by rw [q2.2.1]; exact e2, by rw [q2.2.1]; exact e3, by rw [q2.1]; exact obV, fun _ => by rw [hsz]; exact e5 i3⟩,
    ⟨E', cfV, kV, iV, fV, q1.1, gV, stV, by rw [q2.1]; exact knV, by rw [q2.1]; exact obV, by rw [q2.2.1]; exact asV, q3⟩, ⟨E', cfC, kC, iC, fC, q1.1, gC, stC, by rw [q2.1]; exact knV, by rw [q2.1]; exact obV, by rw [q2.2.1]; exact asC, q4⟩,
    ⟨V', ⟨q5.1, State.isArrayOf_alike al'.symm q5.2.1, q5.2.2.1⟩, q6, by rw [← al'.findClass]; exact q7, q8, fun j hj => by have := q9 j hj; rwa [Nat.zero_add] at this⟩, fun O n d w F n1 n2 => ?_⟩, hl, hc, hs⟩, st⟩
  · intro y hy
    simp only [List.mem_cons, List.not_mem_nil, or_false] at hy
    rcases hy with rfl | rfl <;> rfl
  · by_cases q : y = x
    · subst q
      cases hD.symm.trans hy
      exact ⟨E', q1.1, q2.2.1, q2.1, hsz⟩
    · exact ⟨cy, q10 y cy q hy, rfl, rfl, rfl⟩
  · obtain ⟨D3, cf, k, i, f, g1, g2, g3, g4, g5, g6, g7⟩ := F
    cases hD.symm.trans g1
    simp only [RoadKit.slotOf, g2, gV, gC, Option.map_some, Option.getD_some] at n1 n2
    exact ⟨E', cf, k, i, f, q1.1, g2, g3, by rw [q2.1]; exact g4, by rw [q2.1]; exact g5, by rw [q2.2.1]; exact g6, by rw [q2.2.2 f.slot (by simp [n1, n2])]; exact g7⟩
end StrChars.Road
namespace StrChars.Road
open Jvm Sem ClassFile Op Lib Jvm.Stand Jvm.Free Jvm.Free.XT
/-- WHAT COMES BACK, the byte[] as a list of values -/
def QA (Z : State) (x : Addr) (zn : Int32) (cs : List Int32) (h : Heap) (v : Option Value) (h' : Heap) (L : List Loc) : Prop := v = none ∧ (∀ y ∈ L, y.base = x) ∧ RoadKit.Keep h h' [x] ∧ h'.size = h.size + 1 ∧ RoadKit.Exa Z h' x ST ∧ RoadKit.Fld Z h' x ST "value" "[B" (.ref h.size) ∧ RoadKit.Fld Z h' x ST "coder" "B" (.int 0) ∧
  (∃ kb, Z.vm.findClass "[B" = some kb ∧ RoadKit.Arv Z h' h.size kb .byte zn (cs.map fun c => .int (lo8 c)) (.int 0)) ∧
  ∀ (O n d : String) (w : Value), RoadKit.Fld Z h x O n d w → RoadKit.slotOf Z O n d ≠ RoadKit.slotOf Z ST "value" "[B" → RoadKit.slotOf Z O n d ≠ RoadKit.slotOf Z ST "coder" "B" → RoadKit.Fld Z h' x O n d w
/-- **new String(chars) AT A CALL, THE ARRAYS AS LISTS**: the char[] at b holds cs, not empty, no char above 255 -/
theorem backArv {p : Program} {l : Launch} {e : Env} {R : Room} {s : State} {args : Array Value} {below : List Frame} {len W : Nat} {Z : State} {a0 : Array Value} {h : Heap} (hZ : Z.Warmed39 s.vm) (hw : ∀ d ∈ words, d.before a0 Z = true) {kI : Nat} (wi : (Jvm.Cond.instantiable ST kI).before a0 Z = true)
    {x b : Addr} {k : ClassId} {zn z : Int32} {cs : List Int32} {dv v0 c0 : Value} (E : RoadKit.Exa Z h x ST) (V : RoadKit.Fld Z h x ST "value" "[B" v0) (C : RoadKit.Fld Z h x ST "coder" "B" c0) (K : RoadKit.Arv Z h b k .char zn (cs.map Value.int) dv) (S : RoadKit.Sta Z h ST "COMPACT_STRINGS" "Z" (.int z)) (hz : ¬ z = 0)
    (hlen : zn.toNatClampNeg = cs.length) (h0 : 0 < cs.length) (hbig : cs.length ≤ 536870912) (hall : ∀ c ∈ cs, ¬ 255 < c) (hfr : 4 ≤ R.frames) (hlo : W + 65 ≤ R.locals) :
    Back l R p e below s args New1.yN len W (fun P a => a = #[.ref x, .ref b] ∧ P.U.heap = h ∧ P.cells + 1 ≤ R.cells ∧ P.slots + cs.length ≤ R.slots)
      (fun P _ v B => ∃ L, QA Z x zn cs h v B.U.heap L ∧ B.locs = P.locs ++ L ∧ B.cells = P.cells + 1 ∧ B.slots = P.slots + cs.length) := by
  obtain ⟨A, K1, K2, K3, K4, K5, K6⟩ := K
  have e : A.slots.size = cs.length := K3.trans hlen
  have hat : ∀ (i : Nat) (hi : i < cs.length), A.slots[i]? = some (.int cs[i]) := fun i hi => by rw [K5 i (by omega)]; simp [List.getD_eq_getElem?_getD, hi]
  have hcv : ∀ (i : Nat) (hi : i < cs.length), cv A i = cs[i] := fun i hi => by unfold cv; rw [hat i hi]
  have hty : Typed .char A := fun i v hv => by
    have hi : i < A.slots.size := (Array.getElem?_eq_some_iff.mp hv).1
    have q := K5 i hi
    rw [hv] at q
    rw [Option.some.inj q]
    exact K6 i hi
  refine Back.mono (back hZ hw wi E V C K1 hty S hz (by omega) (by omega) (fun i hi => by rw [hcv i (by omega)]; exact hall _ (List.getElem_mem _)) hfr hlo) (fun P a hp => ⟨hp.1, hp.2.1, hp.2.2.1, by rw [e]; exact hp.2.2.2⟩) (fun P a v B hp hq => ?_)
  obtain ⟨L, ⟨q1, q2, q3, q4, q5, q6, q7, ⟨V', v1, v2, v3, v4, v5⟩, q9⟩, hl, hc, hs⟩ := hq
  refine ⟨L, ⟨q1, q2, q3, q4, q5, q6, q7, ⟨V'.cls, v3, V', v1, rfl, by rw [v4, e, hlen], K4, fun i hi => ?_, fun i hi => ?_⟩, q9⟩, hl, hc, by rw [hs, e]⟩
  · have hi' : i < cs.length := by omega
    rw [v5 i (by omega), hcv i hi']; simp [List.getD_eq_getElem?_getD, hi']
  · have hi' : i < cs.length := by omega
    simp only [List.getD_eq_getElem?_getD, List.getElem?_map, List.getElem?_eq_getElem hi', Option.map_some, Option.getD_some]
    exact fits_lo8 _
end StrChars.Road
namespace StrChars.Road
open Jvm Sem ClassFile Op Lib Jvm.Stand Jvm.Free Jvm.Free.XT
/-- WHAT COMES BACK, in the writer's own shape -/
def QV (Z : State) (x : Addr) (N : Int32) (bs : List Int32) (h : Heap) (n0 : Nat) (v : Option Value) (h' : Heap) (L : List Loc) : Prop := v = none ∧ RoadKit.Fr n0 L ∧ RoadKit.Keep h h' [x] ∧ RoadKit.Exa Z h' x ST ∧ RoadKit.Fld Z h' x ST "coder" "B" (.int 0) ∧
  ∃ (t : Addr) (kb : ClassId), n0 ≤ t ∧ h.size ≤ t ∧ ¬ t = x ∧ RoadKit.Fld Z h' x ST "value" "[B" (.ref t) ∧ RoadKit.Arv Z h' t kb .byte N (bs.map Value.int) (.int 0)
/-- **new String(chars) AT A CALL, FOR THE WRITER**: a char[] of n known ints, each 0 to 255 -/
theorem backV {p : Program} {l : Launch} {e : Env} {R : Room} {s : State} {args : Array Value} {below : List Frame} {len W : Nat} {Z : State} {a0 : Array Value} {h : Heap} (hZ : Z.Warmed39 s.vm) (hw : ∀ d ∈ words, d.before a0 Z = true) {kI : Nat} (wi : (Jvm.Cond.instantiable ST kI).before a0 Z = true)
    {x b : Addr} {kC : ClassId} {cs bs : List Int32} {d v0 c0 : Value} {z N : Int32} {n n0 : Nat} (hx0 : n0 ≤ x) (hh0 : n0 ≤ h.size) (E : RoadKit.Exa Z h x ST) (V : RoadKit.Fld Z h x ST "value" "[B" v0) (C : RoadKit.Fld Z h x ST "coder" "B" c0) (K : RoadKit.Arv Z h b kC .char N (cs.map Value.int) d) (S : RoadKit.Sta Z h ST "COMPACT_STRINGS" "Z" (.int z)) (hz : ¬ z = 0)
    (hn : cs.length = n) (hN : N = Int32.ofNat n) (l0 : 0 < n) (l2 : n ≤ 4000) (hp : ∀ c ∈ cs, ¬ c < 0 ∧ ¬ (255 : Int32) < c) (hb : bs = cs.map (fun c => c.toInt8.toInt32)) (hfr : 4 ≤ R.frames) (hlo : W + 65 ≤ R.locals) :
    Back l R p e below s args (⟨"java/lang/String", "<init>", "([C)V"⟩ : MethodName) len W (fun P a => a = #[.ref x, .ref b] ∧ P.U.heap = h ∧ P.cells + 1 ≤ R.cells ∧ P.slots + n ≤ R.slots)
      (fun P _ v B => ∃ L, QV Z x N bs h n0 v B.U.heap L ∧ B.locs = P.locs ++ L ∧ B.cells = P.cells + 1 ∧ B.slots = P.slots + n) := by
  subst hn hN hb
  refine Back.mono (backArv hZ hw wi E V C K S hz (n32 (by omega)) l0 (by omega) (fun c hc => (hp c hc).2) hfr hlo) (fun P a hp => hp) (fun P a v B hp hq => ?_)
  obtain ⟨L, ⟨q1, q2, q3, q4, q5, q6, q7, ⟨kb, v1, v2⟩, q9⟩, hl, hc, hs⟩ := hq
  exact ⟨L, ⟨q1, fun y hy => by rw [q2 y hy]; exact hx0, q3, q5, q7, h.size, kb, hh0, Nat.le_refl _, Nat.ne_of_gt E.lt, q6, by rw [List.map_map]; exact v2⟩, hl, hc, hs⟩
end StrChars.Road
namespace StrChars
open Jvm Sem ClassFile Op Lib Jvm.Stand Jvm.Free.XT Jvm.Free.ALB Jvm.Free.JM Jvm.Free
open Jvm.Lib.Cold (StaticIs)
def hi8 (x : Int32) : Int32 := lo8 (x >>> ((8 : Int32) &&& 31))
/-- what StringUTF16.getChar makes of two bytes -/
def pairCh (u v : Int32) : Int32 := (((u &&& 255) <<< ((0 : Int32) &&& 31)) ||| ((v &&& 255) <<< ((8 : Int32) &&& 31))).toUInt32.toUInt16.toUInt32.toInt32
theorem shr0 (c : Int32) : c >>> ((0 : Int32) &&& 31) = c := by
  have e : ((0 : Int32) &&& 31) = 0 := by decide
  rw [e]
  apply Int32.toBitVec_inj.mp
  rw [Int32.toBitVec_shiftRight]
  have e1 : ((0 : Int32).toBitVec.smod 32) = 0#32 := by decide
  rw [e1, BitVec.sshiftRight_eq']
  exact BitVec.sshiftRight_zero
theorem lo8_and (x : Int32) : (lo8 x &&& 255).toBitVec.toNat = x.toBitVec.toNat % 256 := by
  have h : (lo8 x).toBitVec = (x.toBitVec.signExtend 8).signExtend 32 := by rw [lo8, Int8.toBitVec_toInt32, Int32.toBitVec_toInt8]
  rw [Int32.toBitVec_and, BitVec.toNat_and, h]
  have e : ((x.toBitVec.signExtend 8).signExtend 32).toNat % 256 = x.toBitVec.toNat % 256 := by
    rw [BitVec.toNat_signExtend]
    have hlt := x.toBitVec.isLt
    simp only [BitVec.toNat_setWidth, BitVec.toNat_signExtend]
    split <;> split <;> omega
  rw [← e]
  exact Nat.and_two_pow_sub_one_eq_mod _ 8
theorem pair_says {c : Int32} (h0 : ¬ c < 0) (h1 : ¬ 65535 < c) : pairCh (lo8 c) (hi8 c) = c := by
  rw [Int32.lt_iff_toInt_lt] at h0 h1
  have e0 : (0 : Int32).toInt = 0 := rfl
  have e1 : (65535 : Int32).toInt = 65535 := rfl
  have hc : c.toInt = c.toBitVec.toNat := by
    have := c.toBitVec.isLt
    have e : c.toInt = c.toBitVec.toInt := rfl
    rw [e] at h0 h1
    rw [e]
    rw [BitVec.toInt_eq_toNat_cond] at h0 h1 ⊢
    split at h0 <;> split <;> omega
  have hn : c.toBitVec.toNat < 65536 := by omega
  have a1 := lo8_and c
  have a2 : (hi8 c &&& 255).toBitVec.toNat = c.toBitVec.toNat / 256 := by
    rw [hi8, lo8_and]
    have e : ((8 : Int32) &&& 31) = 8 := by decide
    rw [e, Int32.toBitVec_shiftRight]
    have e2 : ((8 : Int32).toBitVec.smod 32) = 8#32 := by decide
    rw [e2, BitVec.sshiftRight_eq', BitVec.toNat_sshiftRight_of_msb_false (by rw [BitVec.msb_eq_false_iff_two_mul_lt]; omega)]
    show c.toBitVec.toNat >>> 8 % 256 = _
    rw [Nat.shiftRight_eq_div_pow]
    omega
  unfold pairCh
  apply Int32.toBitVec_inj.mp
  apply BitVec.eq_of_toNat_eq
  have f0 : ((0 : Int32) &&& 31) = 0 := by decide
  have f8 : ((8 : Int32) &&& 31) = 8 := by decide
  rw [f0, f8]
  have g : (((lo8 c &&& 255) <<< (0 : Int32)) ||| ((hi8 c &&& 255) <<< (8 : Int32))).toBitVec.toNat = c.toBitVec.toNat := by
    rw [Int32.toBitVec_or, Int32.toBitVec_shiftLeft, Int32.toBitVec_shiftLeft]
    have s0 : ((0 : Int32).toBitVec.smod 32) = 0#32 := by decide
    have s8 : ((8 : Int32).toBitVec.smod 32) = 8#32 := by decide
    rw [s0, s8, BitVec.toNat_or]
    simp only [BitVec.shiftLeft_eq', BitVec.toNat_shiftLeft, a1, a2]
    show (c.toBitVec.toNat % 256) <<< 0 % 2 ^ 32 ||| (c.toBitVec.toNat / 256) <<< 8 % 2 ^ 32 = _
    rw [Nat.shiftLeft_zero, Nat.mod_eq_of_lt (show c.toBitVec.toNat % 256 < 2 ^ 32 by omega), Nat.mod_eq_of_lt (show (c.toBitVec.toNat / 256) <<< 8 < 2 ^ 32 by rw [Nat.shiftLeft_eq]; omega), Nat.or_comm, ← Nat.shiftLeft_add_eq_or_of_lt (by omega), Nat.shiftLeft_eq]
    omega
  show BitVec.toNat (((((lo8 c &&& 255) <<< (0 : Int32)) ||| ((hi8 c &&& 255) <<< (8 : Int32))).toBitVec.setWidth 16).setWidth 32) = _
  rw [BitVec.toNat_setWidth, BitVec.toNat_setWidth, g]
  omega
end StrChars
namespace StrChars
open Jvm Sem ClassFile Op Lib Jvm.Stand Jvm.Free.XT Jvm.Free.ALB Jvm.Free.JM Jvm.Free
open Jvm.Lib.Cold (StaticIs)
theorem shr1 {n : Nat} (h : 2 * n < 2 ^ 31) : Int32.ofNat (2 * n) >>> ((1 : Int32) &&& 31) = Int32.ofNat n := by
  have e : ((1 : Int32) &&& 31) = 1 := by decide
  rw [e]
  apply Int32.toBitVec_inj.mp
  rw [Int32.toBitVec_shiftRight]
  have e1 : ((1 : Int32).toBitVec.smod 32) = 1#32 := by decide
  have hm : (BitVec.ofNat 32 (2 * n)).toNat = 2 * n := by rw [BitVec.toNat_ofNat, Nat.mod_eq_of_lt (by omega)]
  rw [e1, BitVec.sshiftRight_eq']
  apply BitVec.eq_of_toNat_eq
  show ((BitVec.ofNat 32 (2 * n)).sshiftRight 1).toNat = (BitVec.ofNat 32 n).toNat
  rw [BitVec.toNat_sshiftRight_of_msb_false (by rw [BitVec.msb_eq_false_iff_two_mul_lt, hm]; omega), hm, BitVec.toNat_ofNat, Nat.shiftRight_eq_div_pow]
  omega
/-- charAt's cast of a byte read back -/
def chr8 (u : Int32) : Int32 := (u &&& 255).toUInt32.toUInt16.toUInt32.toInt32
theorem chr8_lo8 {c : Int32} (h0 : ¬ c < 0) (h1 : ¬ 255 < c) : chr8 (lo8 c) = c := by
  have t : ∀ k : Fin 256, (Int32.ofNat k.val).toUInt32.toUInt16.toUInt32.toInt32 = Int32.ofNat k.val := by decide +kernel
  unfold chr8
  rw [lo8_mask h0 h1]
  rw [Int32.lt_iff_toInt_lt] at h0 h1
  have e0 : (0 : Int32).toInt = 0 := rfl
  have e1 : (255 : Int32).toInt = 255 := rfl
  obtain ⟨k, hk⟩ : ∃ k : Nat, c.toInt = k := ⟨c.toInt.toNat, by omega⟩
  have hx : c = Int32.ofNat k := Int32.toInt_inj.mp (by rw [hk, Int32.toInt_ofNat_small (by omega)])
  rw [hx]
  exact t ⟨k, by omega⟩
theorem narrow_ch {c : Int32} (h0 : ¬ c < 0) (h1 : ¬ 65535 < c) : narrow .char (.int c) = .int c := by
  have q : narrow .char (.int (pairCh (lo8 c) (hi8 c))) = .int (pairCh (lo8 c) (hi8 c)) := narrow_c _
  rwa [pair_says h0 h1] at q
/-- the array's cell V codes the n chars f 0 .. f (n - 1) by the coder cd, as the JDK does: coder 1 just where some char is above 255 -/
def Cod (cd : Int32) (n : Nat) (f : Nat → Int32) (V : Cell) : Prop := (cd = 0 ∧ V.slots.size = n ∧ ∀ j, j < n → V.slots[j]? = some (.int (lo8 (f j))) ∧ ¬ 255 < f j) ∨ (cd = 1 ∧ V.slots.size = 2 * n ∧ (∀ j, j < n → V.slots[2 * j]? = some (.int (lo8 (f j))) ∧ V.slots[2 * j + 1]? = some (.int (hi8 (f j)))) ∧ ∃ j, j < n ∧ 255 < f j)
/-- **x is a String of the n chars f 0 .. f (n - 1)**, Latin-1 or UTF-16; its array at t has the cell V -/
def Txt (x t : Addr) (V : Cell) (cd : Int32) (n : Nat) (f : Nat → Int32) (U : State) : Prop := Exact "java/lang/String" x U ∧ Has x "java/lang/String" "value" "[B" (.ref t) U ∧ Has x "java/lang/String" "coder" "B" (.int cd) U ∧ XT.Arr .byte t V U ∧ Cod cd n f V ∧ ∀ j, j < n → ¬ f j < 0 ∧ ¬ 65535 < f j
theorem Txt.mv {x t : Addr} {V : Cell} {cd : Int32} {n : Nat} {f : Nat → Int32} {U U' : State} (h : Txt x t V cd n f U) (hal : U.vm.Alike U'.vm) (hh : U'.heap = U.heap) : Txt x t V cd n f U' := ⟨h.1.mv hal hh, h.2.1.mv hal hh, h.2.2.1.mv hal hh, h.2.2.2.1.mv hal hh, h.2.2.2.2⟩
end StrChars
namespace StrChars.Road
open Jvm Sem ClassFile Op Lib Jvm.Stand Jvm.Free Jvm.Free.XT
open Jvm.Lib.Cold (StaticIs)
theorem consq {a : Array Value} {s : State} {c : Jvm.Cond} {L : List Jvm.Cond} (h0 : c.before a s = true) (h : ∀ w ∈ L, w.before a s = true) : ∀ w ∈ c :: L, w.before a s = true := fun w hw => (List.mem_cons.mp hw).elim (fun e => e ▸ h0) (h w)
/-- the bytes of the chars cs, low before high -/
def wideBytes : List Int32 → List Value
  | [] => []
  | c :: cs => .int (lo8 c) :: .int (hi8 c) :: wideBytes cs
theorem wide_lo (d : Value) : ∀ (cs : List Int32) (j : Nat), j < cs.length → (wideBytes cs).getD (2 * j) d = .int (lo8 (cs.getD j 0))
  | [], j, h => absurd h (Nat.not_lt_zero j)
  | c :: cs, 0, _ => rfl
  | c :: cs, j + 1, h => by
    have q := wide_lo d cs j (by simpa using h)
    rw [show 2 * (j + 1) = 2 * j + 1 + 1 from by omega]
    simpa [wideBytes] using q
theorem wide_hi (d : Value) : ∀ (cs : List Int32) (j : Nat), j < cs.length → (wideBytes cs).getD (2 * j + 1) d = .int (hi8 (cs.getD j 0))
  | [], j, h => absurd h (Nat.not_lt_zero j)
  | c :: cs, 0, _ => rfl
  | c :: cs, j + 1, h => by
    have q := wide_hi d cs j (by simpa using h)
    rw [show 2 * (j + 1) + 1 = 2 * j + 1 + 1 + 1 from by omega]
    simpa [wideBytes] using q
theorem low_at (d : Value) (cs : List Int32) (j : Nat) (h : j < cs.length) : (cs.map fun c => Value.int (lo8 c)).getD j d = .int (lo8 (cs.getD j 0)) := by
  simp [List.getD_eq_getElem?_getD, h]
/-- an array of N2 bytes vs codes the chars cs by the coder cd -/
def CodA (cs : List Int32) (cd N2 : Int32) (vs : List Value) : Prop := (cd = 0 ∧ N2 = Int32.ofNat cs.length ∧ vs = (cs.map fun c => Value.int (lo8 c)) ∧ ∀ c ∈ cs, ¬ 255 < c) ∨ (cd = 1 ∧ N2 = Int32.ofNat (2 * cs.length) ∧ vs = wideBytes cs ∧ ∃ c ∈ cs, 255 < c)
theorem CodA.cod {cs : List Int32} {cd N2 : Int32} {vs : List Value} {V : Cell} (h : CodA cs cd N2 vs) (hn : 2 * cs.length < 2 ^ 31) (hs : V.slots.size = N2.toNatClampNeg) (hv : RoadKit.Has V vs (.int 0)) : Cod cd cs.length (fun j => cs.getD j 0) V := by
  rcases h with ⟨rfl, rfl, rfl, h⟩ | ⟨rfl, rfl, rfl, c, hc, hw⟩
  · rw [n32 (by omega)] at hs
    exact Or.inl ⟨rfl, hs, fun j hj => ⟨by rw [hv j (by omega), low_at _ _ _ hj], by
      have e : cs.getD j 0 = cs[j] := by simp [List.getD_eq_getElem?_getD, hj]
      show ¬ 255 < cs.getD j 0
      rw [e]; exact h _ (List.getElem_mem _)⟩⟩
  · rw [n32 (by omega)] at hs
    obtain ⟨j, hj, rfl⟩ := List.getElem_of_mem hc
    exact Or.inr ⟨rfl, hs, fun j hj => ⟨by rw [hv _ (by omega), wide_lo _ _ _ hj], by rw [hv _ (by omega), wide_hi _ _ _ hj]⟩, j, hj, by
      have e : cs.getD j 0 = cs[j] := by simp [List.getD_eq_getElem?_getD, hj]
      show 255 < cs.getD j 0
      rw [e]; exact hw⟩
/-- an object of exactly java/lang/String, its two fields found: as the laws ask it -/
theorem strObj {Z U : State} {a0 : Array Value} {kI : Nat} (wi : (Jvm.Cond.instantiable ST kI).before a0 Z = true) (al : Z.vm.Alike U.vm) {x : Addr} {v0 c0 : Value} (E : RoadKit.Exa Z U.heap x ST) (V : RoadKit.Fld Z U.heap x ST "value" "[B" v0) (C : RoadKit.Fld Z U.heap x ST "coder" "B" c0) :
    ∃ (D : Cell) (fV fC : Field), Blank ST x D U ∧ Found ST "value" "[B" fV U ∧ Found ST "coder" "B" fC U ∧ D.slots[fV.slot]? = some v0 ∧ D.slots[fC.slot]? = some c0 ∧ RoadKit.slotOf Z ST "value" "[B" = fV.slot ∧ RoadKit.slotOf Z ST "coder" "B" = fC.slot := by
  obtain ⟨D, cfV, kV, iV, fV, hD, gV, stV, knV, obV, asV, slV⟩ := V
  obtain ⟨D', cfC, kC, iC, fC, hD', gC, stC, -, -, asC, slC⟩ := C
  cases hD.symm.trans hD'
  obtain ⟨D2, kD, e1, e2, e3, e4, e5⟩ := E
  cases hD.symm.trans e1
  obtain ⟨c2, k2, i1, i2, i3, -⟩ := Cond.instantiable_spec wi
  cases e2.symm.trans i1
  cases e3.symm.trans i2
  obtain ⟨kU, u1, u2⟩ := al.2.2 _ _ e3
  exact ⟨D, fV, fC, ⟨hD, ⟨knV, fun q hq => by rw [hq] at obV; cases obV⟩, by rw [al.findClass]; exact e2, kU, u1, by rw [u2]; exact i3, by rw [u2]; exact e5 i3⟩, ⟨SBG.found_only al ⟨cfV, kV, iV, gV⟩, stV⟩, ⟨SBG.found_only al ⟨cfC, kC, iC, gC⟩, stC⟩, slV, slC, by simp [RoadKit.slotOf, gV], by simp [RoadKit.slotOf, gC]⟩
theorem sta_is {Z U : State} (al : Z.vm.Alike U.vm) {C n d : String} {v : Value} (S : RoadKit.Sta Z U.heap C n d v) : StaticIs U C n d v := by
  obtain ⟨cfS, iS, kS, fS, st, cS, t1, t2, t3, t4, t5, t6, t7⟩ := S
  exact StaticIs.there (s := { Z with heap := U.heap }) ⟨cfS, iS, kS, fS, st, cS, t1, t2, t3, t4, t5, (fun q => by rw [q] at t6; cases t6), t7⟩ al rfl
end StrChars.Road
namespace StrChars
open Jvm Sem ClassFile Op Lib Jvm.Stand Jvm.Free.XT Jvm.Free.ALB Jvm.Free.JM Jvm.Free
open Jvm.Lib.Cold (StaticIs)
/-- what place i of a byte[]'s cell holds -/
def yv (A : Cell) (i : Nat) : Int32 := match A.slots[i]? with | some (.int x) => x | _ => 0
theorem yv_get {a : Addr} {A : Cell} {U : State} (h : XT.Arr .byte a A U) (ht : Typed .byte A) {i : Nat} (hi : i < A.slots.size) : A.slots[i]? = some (.int (yv A i)) := by
  have e := Array.getElem?_eq_getElem hi
  have f := ht i _ e
  unfold yv; rw [e]
  generalize A.slots[i] = v at f
  cases v <;> simp [fits] at f ⊢
/-- the two arrays are equal, place for place -/
def EqC (A B : Cell) : Prop := A.slots.size = B.slots.size ∧ ∀ i, i < A.slots.size → yv A i = yv B i
/-- a boolean that says whether p -/
def Says01 (q : Prop) (r : Option Value) (s u : State) : Prop := ∃ v : Int32, r = some (.int v) ∧ u.heap = s.heap ∧ ((v = 1 ∧ q) ∨ (v = 0 ∧ ¬ q))
theorem Says01.mv {q : Prop} : ∀ r (U U' V V' : State), U'.heap = U.heap → V.vm.Alike V'.vm → V'.heap = V.heap → Says01 q r U V → Says01 q r U' V' :=
  fun r U U' V V' h1 _ h2 ⟨v, a, b, c⟩ => ⟨v, a, by rw [h1, h2]; exact b, c⟩
namespace LEq
def yN : MethodName := ⟨"java/lang/StringLatin1", "equals", "([B[B)Z"⟩
abbrev yB : ByteArray := jdk_43_method_13_code
theorem d0 : decode yB 0 = .ok (.aload_n 0, 1) := by decide +kernel
theorem d1 : decode yB 1 = .ok (.arraylength, 1) := by decide +kernel
theorem d2 : decode yB 2 = .ok (.aload_n 1, 1) := by decide +kernel
theorem d3 : decode yB 3 = .ok (.arraylength, 1) := by decide +kernel
theorem d4 : decode yB 4 = .ok (.if_icmp (.ne) 30, 3) := by decide +kernel
theorem d7 : decode yB 7 = .ok (.iconst 0, 1) := by decide +kernel
theorem d8 : decode yB 8 = .ok (.istore_n 2, 1) := by decide +kernel
theorem d9 : decode yB 9 = .ok (.iload_n 2, 1) := by decide +kernel
theorem d10 : decode yB 10 = .ok (.aload_n 0, 1) := by decide +kernel
theorem d11 : decode yB 11 = .ok (.arraylength, 1) := by decide +kernel
theorem d12 : decode yB 12 = .ok (.if_icmp (.ge) 20, 3) := by decide +kernel
theorem d15 : decode yB 15 = .ok (.aload_n 0, 1) := by decide +kernel
theorem d16 : decode yB 16 = .ok (.iload_n 2, 1) := by decide +kernel
theorem d17 : decode yB 17 = .ok (.baload, 1) := by decide +kernel
theorem d18 : decode yB 18 = .ok (.aload_n 1, 1) := by decide +kernel
theorem d19 : decode yB 19 = .ok (.iload_n 2, 1) := by decide +kernel
theorem d20 : decode yB 20 = .ok (.baload, 1) := by decide +kernel
theorem d21 : decode yB 21 = .ok (.if_icmp (.eq) 5, 3) := by decide +kernel
theorem d24 : decode yB 24 = .ok (.iconst 0, 1) := by decide +kernel
theorem d25 : decode yB 25 = .ok (.ireturn, 1) := by decide +kernel
theorem d26 : decode yB 26 = .ok (.iinc 2 1, 3) := by decide +kernel
theorem d29 : decode yB 29 = .ok (.goto (-20), 3) := by decide +kernel
theorem d32 : decode yB 32 = .ok (.iconst 1, 1) := by decide +kernel
theorem d33 : decode yB 33 = .ok (.ireturn, 1) := by decide +kernel
theorem d34 : decode yB 34 = .ok (.iconst 0, 1) := by decide +kernel
theorem d35 : decode yB 35 = .ok (.ireturn, 1) := by decide +kernel
def site : List Cond := []
def tab : Cond := tabOf yN yB 3 (some .boolean) site
def P (a : Addr) (A : Cell) (b : Addr) (B : Cell) (args : Array Value) (s : State) : Prop := args = #[.ref a, .ref b] ∧ XT.Arr .byte a A s ∧ Typed .byte A ∧ XT.Arr .byte b B s ∧ Typed .byte B
/-- whether two byte[] are equal, place for place -/
theorem law (l : Launch) (a : Addr) (A : Cell) (b : Addr) (B : Cell) : Law l yN 2 2 0 0 yB 3 (some .boolean) site (P a A b B) (Says01 (EqC A B)) [] 0 0 := by
  refine Law.of_walk (plainFor_of_name (by decide +kernel)) (by decide +kernel) (by decide +kernel) (by decide) (fun _ _ h => by rw [h.1]; rfl) (fun _ U U' hal hh h => ⟨h.1, h.2.1.mv hal hh, h.2.2.1, h.2.2.2.1.mv hal hh, h.2.2.2.2⟩) (fun r U U' V V' h1 hal h2 h => Says01.mv r U U' V V' h1 hal h2 h) ?_
  intro p e s m args below meth c s₁ X0 hexec hbytes hml hret hlk hnm hown hh0 W hP
  obtain ⟨rfl, hA, tA, hB, tB⟩ := hP
  have a31 := hA.2.2.2
  have b31 := hB.2.2.2
  have hA0 := hA.mv X0.warmed.alike hh0
  have hB0 := hB.mv X0.warmed.alike hh0
  have c1 : Steps p.tables e below (s₁.setTop (entryFrame m #[.ref a, .ref b] 3)) (s₁.setTop (mkF m 0 #[.val (.ref a), .val (.ref b), .unset] [])) := entry rfl
  have c2 : Steps p.tables e below (s₁.setTop (entryFrame m #[.ref a, .ref b] 3)) (s₁.setTop (mkF m 4 #[.val (.ref a), .val (.ref b), .unset] [.int (Int32.ofNat B.slots.size), .int (Int32.ofNat A.slots.size)])) := c1.trans (by
    refine XS.aloadN X0.here hexec rfl (hb hbytes d0) rfl rfl ?_
    refine X0.alen hexec hA0 rfl rfl (hb hbytes d1) ?_
    refine XS.aloadN X0.here hexec rfl (hb hbytes d2) rfl rfl ?_
    refine X0.alen hexec hB0 rfl rfl (hb hbytes d3) ?_
    exact Steps.refl _)
  by_cases hs : A.slots.size = B.slots.size
  · have c3 : Steps p.tables e below (s₁.setTop (entryFrame m #[.ref a, .ref b] 3)) (s₁.setTop (mkF m 9 #[.val (.ref a), .val (.ref b), .val (.int 0)] [])) := c2.trans (by
      refine XS.icmpNo X0.here hexec rfl (hb hbytes d4) rfl (ii_ne_f (by rw [hs])) ?_
      refine iconstV X0.here hexec rfl 0 (hb hbytes d7) (by decide) ?_
      refine XS.istoreN X0.here hexec rfl (hb hbytes d8) rfl rfl ?_
      exact Steps.refl _)
    have loop : ∀ (r i : Nat), i + r = A.slots.size → (∀ j, j < i → yv A j = yv B j) → Steps p.tables e below (s₁.setTop (entryFrame m #[.ref a, .ref b] 3)) (s₁.setTop (mkF m 9 #[.val (.ref a), .val (.ref b), .val (.int (Int32.ofNat i))] [])) → ∃ (pc : Nat) (Ls : Array Slot) (v : Int32), (pc = 25 ∨ pc = 33) ∧ ((v = 1 ∧ EqC A B) ∨ (v = 0 ∧ ¬ EqC A B)) ∧ Steps p.tables e below (s₁.setTop (entryFrame m #[.ref a, .ref b] 3)) (s₁.setTop (mkF m pc Ls [.int v])) := by
      intro r
      induction r with
      | zero =>
        intro i hi he cl
        exact ⟨33, _, 1, Or.inr rfl, Or.inl ⟨rfl, hs, fun j hj => he j (by omega)⟩, cl.trans (by
          refine XS.iloadN X0.here hexec rfl (hb hbytes d9) rfl ?_
          refine XS.aloadN X0.here hexec rfl (hb hbytes d10) rfl rfl ?_
          refine X0.alen hexec hA0 rfl rfl (hb hbytes d11) ?_
          refine XS.icmpYes X0.here hexec rfl (pc0 := 12) rfl (hb hbytes d12) rfl (ii_ge_t (nlt32 (by omega) (by omega))) (by decide) rfl ?_
          refine iconstV X0.here hexec rfl 1 (hb hbytes d32) (by decide) ?_
          exact Steps.refl _)⟩
      | succ r ih =>
        intro i hi he cl
        have c4 : Steps p.tables e below (s₁.setTop (entryFrame m #[.ref a, .ref b] 3)) (s₁.setTop (mkF m 21 #[.val (.ref a), .val (.ref b), .val (.int (Int32.ofNat i))] [.int (yv B i), .int (yv A i)])) := cl.trans (by
          refine XS.iloadN X0.here hexec rfl (hb hbytes d9) rfl ?_
          refine XS.aloadN X0.here hexec rfl (hb hbytes d10) rfl rfl ?_
          refine X0.alen hexec hA0 rfl rfl (hb hbytes d11) ?_
          refine XS.icmpNo X0.here hexec rfl (hb hbytes d12) rfl (ii_ge_f (lt32 (by omega) (by omega))) ?_
          refine XS.aloadN X0.here hexec rfl (hb hbytes d15) rfl rfl ?_
          refine XS.iloadN X0.here hexec rfl (hb hbytes d16) rfl ?_
          refine X0.aget hexec hA0 rfl (yv_get hA tA (i := i) (by omega)) rfl rfl (hb hbytes d17) ?_
          refine XS.aloadN X0.here hexec rfl (hb hbytes d18) rfl rfl ?_
          refine XS.iloadN X0.here hexec rfl (hb hbytes d19) rfl ?_
          refine X0.aget hexec hB0 rfl (yv_get hB tB (i := i) (by omega)) rfl rfl (hb hbytes d20) ?_
          exact Steps.refl _)
        by_cases hv : yv A i = yv B i
        · have c5 : Steps p.tables e below (s₁.setTop (entryFrame m #[.ref a, .ref b] 3)) (s₁.setTop (mkF m 9 #[.val (.ref a), .val (.ref b), .val (.int (Int32.ofNat i + 1))] [])) := c4.trans (by
            refine XS.icmpYes X0.here hexec rfl (pc0 := 21) rfl (hb hbytes d21) rfl (ii_eq_t hv) (by decide) rfl ?_
            refine iincV X0.here hexec rfl 1 (hb hbytes d26) (by decide) rfl rfl ?_
            refine XS.goto X0.here hexec rfl (pc0 := 29) rfl (hb hbytes d29) (by decide) rfl ?_
            exact Steps.refl _)
          rw [succ32] at c5
          exact ih (i + 1) (by omega) (fun j hj => by
            by_cases e : j = i
            · rw [e]; exact hv
            · exact he j (by omega)) c5
        · exact ⟨25, _, 0, Or.inl rfl, Or.inr ⟨rfl, fun q => hv (q.2 i (by omega))⟩, c4.trans (by
            refine XS.icmpNo X0.here hexec rfl (hb hbytes d21) rfl (ii_eq_f hv) ?_
            refine iconstV X0.here hexec rfl 0 (hb hbytes d24) (by decide) ?_
            exact Steps.refl _)⟩
    obtain ⟨pc, Ls, v, hpc, hv, cz⟩ := loop A.slots.size 0 (by omega) (fun j hj => absurd hj (Nat.not_lt_zero j)) c3
    have nv : narrow .boolean (.int v) = .int v := by rcases hv with ⟨rfl, -⟩ | ⟨rfl, -⟩ <;> rfl
    rcases hpc with rfl | rfl
    · exact ⟨s₁, some (.int v), _, _, _, X0, rfl, rfl, rfl, (fun h => by cases h), ⟨v, rfl, hh0, hv⟩, fun fs hl => cz.trans (X0.ireturnOut hexec hret nv (Or.inr (Or.inl rfl)) (hb hbytes d25) hl)⟩
    · exact ⟨s₁, some (.int v), _, _, _, X0, rfl, rfl, rfl, (fun h => by cases h), ⟨v, rfl, hh0, hv⟩, fun fs hl => cz.trans (X0.ireturnOut hexec hret nv (Or.inr (Or.inl rfl)) (hb hbytes d33) hl)⟩
  · have c3 : Steps p.tables e below (s₁.setTop (entryFrame m #[.ref a, .ref b] 3)) (s₁.setTop (mkF m 35 #[.val (.ref a), .val (.ref b), .unset] [.int 0])) := c2.trans (by
      refine XS.icmpYes X0.here hexec rfl (pc0 := 4) rfl (hb hbytes d4) rfl (ii_ne_t (ne32 a31 b31 hs)) (by decide) rfl ?_
      refine iconstV X0.here hexec rfl 0 (hb hbytes d34) (by decide) ?_
      exact Steps.refl _)
    exact ⟨s₁, some (.int 0), _, _, _, X0, rfl, rfl, rfl, (fun h => by cases h), ⟨0, rfl, hh0, Or.inr ⟨rfl, fun q => hs q.1⟩⟩, fun fs hl => c3.trans (X0.ireturnOut hexec hret rfl (Or.inr (Or.inl rfl)) (hb hbytes d35) hl)⟩
end LEq
theorem Cod.ty {cd : Int32} {n : Nat} {f : Nat → Int32} {V : Cell} (h : Cod cd n f V) : Typed .byte V := fun i v hv => by
  have hi : i < V.slots.size := (Array.getElem?_eq_some_iff.mp hv).1
  rcases h with ⟨-, k1, k2⟩ | ⟨-, k1, k2, -⟩
  · rw [(k2 i (by omega)).1] at hv; cases hv; exact fits_lo8 _
  · rcases Nat.mod_two_eq_zero_or_one i with e | e
    · obtain ⟨j, rfl⟩ : ∃ j, i = 2 * j := ⟨i / 2, by omega⟩
      rw [(k2 j (by omega)).1] at hv; cases hv; exact fits_lo8 _
    · obtain ⟨j, rfl⟩ : ∃ j, i = 2 * j + 1 := ⟨i / 2, by omega⟩
      rw [(k2 j (by omega)).2] at hv; cases hv; exact fits_lo8 _
/-- the same text -/
def SameT (n : Nat) (f : Nat → Int32) (k : Nat) (g : Nat → Int32) : Prop := n = k ∧ ∀ j, j < n → f j = g j
theorem lo8_inj {x y : Int32} (h0 : ¬ x < 0) (h1 : ¬ 255 < x) (k0 : ¬ y < 0) (k1 : ¬ 255 < y) (h : lo8 x = lo8 y) : x = y := by
  rw [← lo8_mask h0 h1, ← lo8_mask k0 k1, h]
/-- arrays coded by one coder are equal just where the texts are -/
theorem Cod.eqv {cd : Int32} {n k : Nat} {f g : Nat → Int32} {V V' : Cell} (h : Cod cd n f V) (h' : Cod cd k g V') (hf : ∀ j, j < n → ¬ f j < 0 ∧ ¬ 65535 < f j) (hg : ∀ j, j < k → ¬ g j < 0 ∧ ¬ 65535 < g j) : EqC V V' ↔ SameT n f k g := by
  have yvv : ∀ {W : Cell} {i : Nat} {x : Int32}, W.slots[i]? = some (.int x) → yv W i = x := fun q => by unfold yv; rw [q]
  rcases h with ⟨rfl, k1, k2⟩ | ⟨rfl, k1, k2, -⟩
  · rcases h' with ⟨-, m1, m2⟩ | ⟨e, -⟩
    · constructor
      · rintro ⟨e1, e2⟩
        refine ⟨by omega, fun j hj => ?_⟩
        have q := e2 j (by omega)
        rw [yvv (k2 j hj).1, yvv (m2 j (by omega)).1] at q
        exact lo8_inj (hf j hj).1 (k2 j hj).2 (hg j (by omega)).1 (m2 j (by omega)).2 q
      · rintro ⟨rfl, e2⟩
        refine ⟨by omega, fun j hj => ?_⟩
        rw [yvv (k2 j (by omega)).1, yvv (m2 j (by omega)).1, e2 j (by omega)]
    · exact absurd e (by decide)
  · rcases h' with ⟨e, -⟩ | ⟨-, m1, m2, -⟩
    · exact absurd e (by decide)
    · constructor
      · rintro ⟨e1, e2⟩
        refine ⟨by omega, fun j hj => ?_⟩
        have q1 := e2 (2 * j) (by omega)
        have q2 := e2 (2 * j + 1) (by omega)
        rw [yvv (k2 j hj).1, yvv (m2 j (by omega)).1] at q1
        rw [yvv (k2 j hj).2, yvv (m2 j (by omega)).2] at q2
        rw [← pair_says (hf j hj).1 (hf j hj).2, ← pair_says (hg j (by omega)).1 (hg j (by omega)).2, q1, q2]
      · rintro ⟨rfl, e2⟩
        refine ⟨by omega, fun i hi => ?_⟩
        rcases Nat.mod_two_eq_zero_or_one i with e | e
        · obtain ⟨j, rfl⟩ : ∃ j, i = 2 * j := ⟨i / 2, by omega⟩
          rw [yvv (k2 j (by omega)).1, yvv (m2 j (by omega)).1, e2 j (by omega)]
        · obtain ⟨j, rfl⟩ : ∃ j, i = 2 * j + 1 := ⟨i / 2, by omega⟩
          rw [yvv (k2 j (by omega)).2, yvv (m2 j (by omega)).2, e2 j (by omega)]
/-- two codings differ: so do the texts -/
theorem Cod.dif {cd cd' : Int32} {n k : Nat} {f g : Nat → Int32} {V V' : Cell} (h : Cod cd n f V) (h' : Cod cd' k g V') (hne : ¬ cd = cd') : ¬ SameT n f k g := by
  rintro ⟨rfl, e⟩
  rcases h with ⟨rfl, -, k2⟩ | ⟨rfl, -, -, j, hj, hw⟩
  · rcases h' with ⟨rfl, -⟩ | ⟨-, -, -, j, hj, hw⟩
    · exact hne rfl
    · exact (k2 j hj).2 (by rw [e j hj]; exact hw)
  · rcases h' with ⟨-, -, m2⟩ | ⟨rfl, -⟩
    · exact (m2 j hj).2 (by rw [← e j hj]; exact hw)
    · exact hne rfl
/-- an object of exactly C is an instance of C -/
theorem cinst {p : Program} {l : Launch} {e : Env} {R : Room} {s : State} {m : MethodId} {args : Array Value} {below : List Frame} {meth : Method} {c : Code} {T : State} {locs : List Loc} {cells slots : Nat} (X : Stand p l e R s m args below meth c T locs cells slots) (hexec : p.tables.exec = Jvm.exec) {own C : String} {index : Nat} (hown : s.vm.findClass own = some m.cls) (hlink : (Cond.classLink own index C).before args s = true) {a : Addr} (hE : Exact C a T)
    {g : JFrame} (hg : g.method = m) {rest : List Value} (hstack : g.stack = .ref a :: rest) (hdg : decode c.code g.pc = .ok (.instanceof index, 3)) :
    ∃ T', Stand p l e R s m args below meth c T' locs cells slots ∧ T'.heap = T.heap ∧ ∀ target, Steps p.tables e below (T'.setTop { g with pc := g.pc + 3, stack := .int 1 :: rest }) target → Steps p.tables e below (T.setTop g) target := by
  obtain ⟨cB, h1, D, h2, h3, h4⟩ := hE
  have h1' : s.vm.findClass C = some cB := by rw [← X.warmed.alike.findClass]; exact h1
  obtain ⟨vm', X', st⟩ := X.instanceofYes hexec hown hlink h2 h4 h1' (by rw [h3]; exact Jvm.Free.SB.assignable_self _ _) hg hstack hdg
  exact ⟨_, X', rfl, st⟩
theorem cself {p : Program} {l : Launch} {e : Env} {R : Room} {s : State} {m : MethodId} {args : Array Value} {below : List Frame} {meth : Method} {c : Code} {T : State} {locs : List Loc} {cells slots : Nat} (X : Stand p l e R s m args below meth c T locs cells slots) (hexec : p.tables.exec = Jvm.exec) {own C : String} {index : Nat} (hown : s.vm.findClass own = some m.cls) (hlink : (Cond.classLink own index C).before args s = true) {a : Addr} (hE : Exact C a T)
    {g : JFrame} (hg : g.method = m) {rest : List Value} (hstack : g.stack = .ref a :: rest) (hdg : decode c.code g.pc = .ok (.checkcast index, 3)) :
    ∃ T', Stand p l e R s m args below meth c T' locs cells slots ∧ T'.heap = T.heap ∧ ∀ target, Steps p.tables e below (T'.setTop { g with pc := g.pc + 3, stack := .ref a :: rest }) target → Steps p.tables e below (T.setTop g) target := by
  obtain ⟨cB, h1, D, h2, h3, h4⟩ := hE
  have h1' : s.vm.findClass C = some cB := by rw [← X.warmed.alike.findClass]; exact h1
  obtain ⟨vm', X', st⟩ := X.checkcastYes hexec hown hlink h2 h4 h1' (by rw [h3]; exact Jvm.Free.SB.assignable_self _ _) hg hstack hdg
  exact ⟨_, X', rfl, fun t h => st t (by rw [← hstack] at h; exact h)⟩
namespace SEq
def yN : MethodName := ⟨"java/lang/String", "equals", "(Ljava/lang/Object;)Z"⟩
abbrev yB : ByteArray := jdk_42_method_66_code
theorem d0 : decode yB 0 = .ok (.aload_n 0, 1) := by decide +kernel
theorem d1 : decode yB 1 = .ok (.aload_n 1, 1) := by decide +kernel
theorem d2 : decode yB 2 = .ok (.if_acmp (.ne) 5, 3) := by decide +kernel
theorem d5 : decode yB 5 = .ok (.iconst 1, 1) := by decide +kernel
theorem d6 : decode yB 6 = .ok (.ireturn, 1) := by decide +kernel
theorem d7 : decode yB 7 = .ok (.aload_n 1, 1) := by decide +kernel
theorem d8 : decode yB 8 = .ok (.instanceof 10, 3) := by decide +kernel
theorem d11 : decode yB 11 = .ok (.ifCond (.eq) 43, 3) := by decide +kernel
theorem d14 : decode yB 14 = .ok (.aload_n 1, 1) := by decide +kernel
theorem d15 : decode yB 15 = .ok (.checkcast 10, 3) := by decide +kernel
theorem d18 : decode yB 18 = .ok (.astore_n 2, 1) := by decide +kernel
theorem d19 : decode yB 19 = .ok (.getstatic 38, 3) := by decide +kernel
theorem d22 : decode yB 22 = .ok (.ifCond (.eq) 14, 3) := by decide +kernel
theorem d25 : decode yB 25 = .ok (.aload_n 0, 1) := by decide +kernel
theorem d26 : decode yB 26 = .ok (.getfield 15, 3) := by decide +kernel
theorem d29 : decode yB 29 = .ok (.aload_n 2, 1) := by decide +kernel
theorem d30 : decode yB 30 = .ok (.getfield 15, 3) := by decide +kernel
theorem d33 : decode yB 33 = .ok (.if_icmp (.ne) 21, 3) := by decide +kernel
theorem d36 : decode yB 36 = .ok (.aload_n 0, 1) := by decide +kernel
theorem d37 : decode yB 37 = .ok (.getfield 9, 3) := by decide +kernel
theorem d40 : decode yB 40 = .ok (.aload_n 2, 1) := by decide +kernel
theorem d41 : decode yB 41 = .ok (.getfield 9, 3) := by decide +kernel
theorem d44 : decode yB 44 = .ok (.invokestatic 541, 3) := by decide +kernel
theorem d47 : decode yB 47 = .ok (.ifCond (.eq) 7, 3) := by decide +kernel
theorem d50 : decode yB 50 = .ok (.iconst 1, 1) := by decide +kernel
theorem d51 : decode yB 51 = .ok (.goto 4, 3) := by decide +kernel
theorem d54 : decode yB 54 = .ok (.iconst 0, 1) := by decide +kernel
theorem d55 : decode yB 55 = .ok (.ireturn, 1) := by decide +kernel
def site : List Cond := [.classLink "java/lang/String" 10 "java/lang/String", .fieldLink "java/lang/String" 38 "java/lang/String" "COMPACT_STRINGS" "Z", .fieldLink "java/lang/String" 15 "java/lang/String" "coder" "B", .fieldLink "java/lang/String" 9 "java/lang/String" "value" "[B", LEq.tab] ++ staticW "java/lang/String" 541 LEq.yN
def tab : Cond := tabOf yN yB 3 (some .boolean) site
def P (x t : Addr) (V : Cell) (cd : Int32) (n : Nat) (f : Nat → Int32) (y t' : Addr) (V' : Cell) (cd' : Int32) (k : Nat) (g : Nat → Int32) (z : Int32) (args : Array Value) (s : State) : Prop := args = #[.ref x, .ref y] ∧ Txt x t V cd n f s ∧ Txt y t' V' cd' k g s ∧ StaticIs s "java/lang/String" "COMPACT_STRINGS" "Z" (.int z) ∧ ¬ z = 0
/-- equals(Object) of two Strings: whether the texts are the same -/
theorem law (l : Launch) (x t : Addr) (V : Cell) (cd : Int32) (n : Nat) (f : Nat → Int32) (y t' : Addr) (V' : Cell) (cd' : Int32) (k : Nat) (g : Nat → Int32) (z : Int32) : Law l yN 2 1 1 14 yB 3 (some .boolean) site (P x t V cd n f y t' V' cd' k g z) (Says01 (SameT n f k g)) [] 0 0 := by
  refine Law.of_walk (plainFor_of_name (by decide +kernel)) (by decide +kernel) (by decide +kernel) (by decide) (fun _ _ h => by rw [h.1]; rfl) (fun _ U U' hal hh h => ⟨h.1, h.2.1.mv hal hh, h.2.2.1.mv hal hh, h.2.2.2.1.there hal hh, h.2.2.2.2⟩) (fun r U U' V V' h1 hal h2 h => Says01.mv r U U' V V' h1 hal h2 h) ?_
  intro p e s m args below meth c s₁ X0 hexec hbytes hml hret hlk hnm hown hh0 W hP
  obtain ⟨rfl, hx, hy, s1, hz⟩ := hP
  have c1 : Steps p.tables e below (s₁.setTop (entryFrame m #[.ref x, .ref y] 3)) (s₁.setTop (mkF m 2 #[.val (.ref x), .val (.ref y), .unset] [.ref y, .ref x])) := Steps.trans (entry rfl) (by
    show Steps p.tables e below (s₁.setTop (mkF m 0 #[.val (.ref x), .val (.ref y), .unset] [])) _
    refine XS.aloadN X0.here hexec rfl (hb hbytes d0) rfl rfl ?_
    refine XS.aloadN X0.here hexec rfl (hb hbytes d1) rfl rfl ?_
    exact Steps.refl _)
  by_cases hxy : x = y
  · have c2 : Steps p.tables e below (s₁.setTop (entryFrame m #[.ref x, .ref y] 3)) (s₁.setTop (mkF m 6 #[.val (.ref x), .val (.ref y), .unset] [.int 1])) := c1.trans (by
      refine acmpNo X0.here hexec rfl (hb hbytes d2) rfl rfl rfl (by simp [acmp, hxy]) ?_
      refine iconstV X0.here hexec rfl 1 (hb hbytes d5) (by decide) ?_
      exact Steps.refl _)
    subst hxy
    have ec : cd = cd' := by
      obtain ⟨D, fd, a1, a2, a3⟩ := hx.2.2.1
      obtain ⟨D', fd', b1, b2, b3⟩ := hy.2.2.1
      cases a1.symm.trans b1
      obtain ⟨q1, q2, q3, q4⟩ := a2.1
      obtain ⟨r1, r2, r3, r4⟩ := b2.1
      cases q4.symm.trans r4
      cases a3.symm.trans b3; rfl
    have et : t = t' := by
      obtain ⟨D, fd, a1, a2, a3⟩ := hx.2.1
      obtain ⟨D', fd', b1, b2, b3⟩ := hy.2.1
      cases a1.symm.trans b1
      obtain ⟨q1, q2, q3, q4⟩ := a2.1
      obtain ⟨r1, r2, r3, r4⟩ := b2.1
      cases q4.symm.trans r4
      cases a3.symm.trans b3; rfl
    subst ec et
    have ev : V = V' := by cases hx.2.2.2.1.1.symm.trans hy.2.2.2.1.1; rfl
    subst ev
    have hs : SameT n f k g := (Cod.eqv hx.2.2.2.2.1 hy.2.2.2.2.1 hx.2.2.2.2.2 hy.2.2.2.2.2).mp ⟨rfl, fun _ _ => rfl⟩
    exact ⟨s₁, some (.int 1), _, _, _, X0, rfl, rfl, rfl, (fun h => by cases h), ⟨1, rfl, hh0, Or.inl ⟨rfl, hs⟩⟩, fun fs hl => c2.trans (X0.ireturnOut hexec hret rfl (Or.inr (Or.inl rfl)) (hb hbytes d6) hl)⟩
  · have c2 : Steps p.tables e below (s₁.setTop (entryFrame m #[.ref x, .ref y] 3)) (s₁.setTop (mkF m 8 #[.val (.ref x), .val (.ref y), .unset] [.ref y])) := c1.trans (by
      refine acmpYes X0.here hexec rfl (pc0 := 2) rfl (hb hbytes d2) rfl rfl rfl (by simp [acmp, hxy]) (by decide) rfl ?_
      refine XS.aloadN X0.here hexec rfl (hb hbytes d7) rfl rfl ?_
      exact Steps.refl _)
    obtain ⟨T3, X3, q3, st3⟩ := cinst X0 hexec hown (wk W (.classLink "java/lang/String" 10 "java/lang/String")) (hy.mv X0.warmed.alike hh0).1 (g := (mkF m 8 #[.val (.ref x), .val (.ref y), .unset] [.ref y])) rfl (rest := []) rfl (hb hbytes d8)
    have hh3 := q3.trans hh0
    have c4 : Steps p.tables e below (s₁.setTop (entryFrame m #[.ref x, .ref y] 3)) (T3.setTop (mkF m 15 #[.val (.ref x), .val (.ref y), .unset] [.ref y])) := (c2.trans (st3 _ (Steps.refl _))).trans (by
      refine XS.ifNo X3.here hexec rfl (hb hbytes d11) rfl (i0_eq_f (by decide)) ?_
      refine XS.aloadN X3.here hexec rfl (hb hbytes d14) rfl rfl ?_
      exact Steps.refl _)
    obtain ⟨T5, X5, q5, st5⟩ := cself X3 hexec hown (wk W (.classLink "java/lang/String" 10 "java/lang/String")) (hy.mv X3.warmed.alike hh3).1 (g := (mkF m 15 #[.val (.ref x), .val (.ref y), .unset] [.ref y])) rfl (rest := []) rfl (hb hbytes d15)
    have hh5 := q5.trans hh3
    have c6 : Steps p.tables e below (s₁.setTop (entryFrame m #[.ref x, .ref y] 3)) (T5.setTop (mkF m 19 #[.val (.ref x), .val (.ref y), .val (.ref y)] [])) := (c4.trans (st5 _ (Steps.refl _))).trans (by
      refine XS.astoreN X5.here hexec rfl (hb hbytes d18) rfl rfl rfl ?_
      exact Steps.refl _)
    obtain ⟨T7, X7, q7, st7⟩ := X5.sget hexec hown (wk W (.fieldLink "java/lang/String" 38 "java/lang/String" "COMPACT_STRINGS" "Z")) s1 (fun _ _ h => by rw [hh5]; exact h) (g := (mkF m 19 #[.val (.ref x), .val (.ref y), .val (.ref y)] [])) rfl (hb hbytes d19)
    have hh7 := q7.trans hh5
    have c8 : Steps p.tables e below (s₁.setTop (entryFrame m #[.ref x, .ref y] 3)) (T7.setTop (mkF m 26 #[.val (.ref x), .val (.ref y), .val (.ref y)] [.ref x])) := (c6.trans (st7 _ (Steps.refl _))).trans (by
      refine XS.ifNo X7.here hexec rfl (hb hbytes d22) rfl (i0_eq_f hz) ?_
      refine XS.aloadN X7.here hexec rfl (hb hbytes d25) rfl rfl ?_
      exact Steps.refl _)
    obtain ⟨T9, X9, q9, st9⟩ := X7.hget hexec hown (wk W (.fieldLink "java/lang/String" 15 "java/lang/String" "coder" "B")) (hx.mv X7.warmed.alike hh7).2.2.1 (g := (mkF m 26 #[.val (.ref x), .val (.ref y), .val (.ref y)] [.ref x])) rfl (rest := []) rfl (hb hbytes d26)
    have hh9 := q9.trans hh7
    have c10 : Steps p.tables e below (s₁.setTop (entryFrame m #[.ref x, .ref y] 3)) (T9.setTop (mkF m 30 #[.val (.ref x), .val (.ref y), .val (.ref y)] [.ref y, .int cd])) := (c8.trans (st9 _ (Steps.refl _))).trans (by
      refine XS.aloadN X9.here hexec rfl (hb hbytes d29) rfl rfl ?_
      exact Steps.refl _)
    obtain ⟨T11, X11, q11, st11⟩ := X9.hget hexec hown (wk W (.fieldLink "java/lang/String" 15 "java/lang/String" "coder" "B")) (hy.mv X9.warmed.alike hh9).2.2.1 (g := (mkF m 30 #[.val (.ref x), .val (.ref y), .val (.ref y)] [.ref y, .int cd])) rfl (rest := [.int cd]) rfl (hb hbytes d30)
    have hh11 := q11.trans hh9
    have c12 : Steps p.tables e below (s₁.setTop (entryFrame m #[.ref x, .ref y] 3)) (T11.setTop (mkF m 33 #[.val (.ref x), .val (.ref y), .val (.ref y)] [.int cd', .int cd])) := c10.trans (st11 _ (Steps.refl _))
    by_cases hcd : cd = cd'
    · subst hcd
      have c13 : Steps p.tables e below (s₁.setTop (entryFrame m #[.ref x, .ref y] 3)) (T11.setTop (mkF m 37 #[.val (.ref x), .val (.ref y), .val (.ref y)] [.ref x])) := c12.trans (by
        refine XS.icmpNo X11.here hexec rfl (hb hbytes d33) rfl (ii_ne_f rfl) ?_
        refine XS.aloadN X11.here hexec rfl (hb hbytes d36) rfl rfl ?_
        exact Steps.refl _)
      obtain ⟨T14, X14, q14, st14⟩ := X11.hget hexec hown (wk W (.fieldLink "java/lang/String" 9 "java/lang/String" "value" "[B")) (hx.mv X11.warmed.alike hh11).2.1 (g := (mkF m 37 #[.val (.ref x), .val (.ref y), .val (.ref y)] [.ref x])) rfl (rest := []) rfl (hb hbytes d37)
      have hh14 := q14.trans hh11
      have c15 : Steps p.tables e below (s₁.setTop (entryFrame m #[.ref x, .ref y] 3)) (T14.setTop (mkF m 41 #[.val (.ref x), .val (.ref y), .val (.ref y)] [.ref y, .ref t])) := (c13.trans (st14 _ (Steps.refl _))).trans (by
        refine XS.aloadN X14.here hexec rfl (hb hbytes d40) rfl rfl ?_
        exact Steps.refl _)
      obtain ⟨T16, X16, q16, st16⟩ := X14.hget hexec hown (wk W (.fieldLink "java/lang/String" 9 "java/lang/String" "value" "[B")) (hy.mv X14.warmed.alike hh14).2.1 (g := (mkF m 41 #[.val (.ref x), .val (.ref y), .val (.ref y)] [.ref y, .ref t])) rfl (rest := [.ref t]) rfl (hb hbytes d41)
      have hh16 := q16.trans hh14
      have c17 : Steps p.tables e below (s₁.setTop (entryFrame m #[.ref x, .ref y] 3)) (T16.setTop (mkF m 44 #[.val (.ref x), .val (.ref y), .val (.ref y)] [.ref t', .ref t])) := c15.trans (st16 _ (Steps.refl _))
      obtain ⟨v18, T18, X18, E18, g18⟩ := X16.callS hexec (LEq.law l t V t' V') hown (wks W (staticW "java/lang/String" 541 LEq.yN)) (wk W LEq.tab) (W := 0) (Nat.le_of_ble_eq_true rfl) (Nat.le_of_ble_eq_true rfl) (Nat.le_refl _) (Nat.le_refl _) (g := (mkF m 44 #[.val (.ref x), .val (.ref y), .val (.ref y)] [.ref t', .ref t])) rfl (by rw [hml]; rfl) c17 (argsL := [.ref t, .ref t']) (rest := []) rfl rfl (by show 2 * 0 + 0 ≤ _; decide) (hb hbytes d44) (⟨rfl, hx.2.2.2.1.mv X16.warmed.alike hh16, hx.2.2.2.2.1.ty, hy.2.2.2.1.mv X16.warmed.alike hh16, hy.2.2.2.2.1.ty⟩)
      obtain ⟨v, rfl, q18, hv⟩ := E18
      have iff := Cod.eqv hx.2.2.2.2.1 hy.2.2.2.2.1 hx.2.2.2.2.2 hy.2.2.2.2.2
      rcases hv with ⟨rfl, he⟩ | ⟨rfl, he⟩
      · have c19 : Steps p.tables e below (s₁.setTop (entryFrame m #[.ref x, .ref y] 3)) (T18.setTop (mkF m 55 #[.val (.ref x), .val (.ref y), .val (.ref y)] [.int 1])) := Steps.trans g18 (by
          refine XS.ifNo X18.here hexec rfl (hb hbytes d47) rfl (i0_eq_f (by decide)) ?_
          refine iconstV X18.here hexec rfl 1 (hb hbytes d50) (by decide) ?_
          refine XS.goto X18.here hexec rfl (pc0 := 51) rfl (hb hbytes d51) (by decide) rfl ?_
          exact Steps.refl _)
        exact ⟨T18, some (.int 1), _, _, _, X18, rfl, rfl, rfl, (fun h => by cases h), ⟨1, rfl, q18.trans hh16, Or.inl ⟨rfl, iff.mp he⟩⟩, fun fs hl => c19.trans (X18.ireturnOut hexec hret rfl (Or.inr (Or.inl rfl)) (hb hbytes d55) hl)⟩
      · have c19 : Steps p.tables e below (s₁.setTop (entryFrame m #[.ref x, .ref y] 3)) (T18.setTop (mkF m 55 #[.val (.ref x), .val (.ref y), .val (.ref y)] [.int 0])) := Steps.trans g18 (by
          refine XS.ifYes X18.here hexec rfl (pc0 := 47) rfl (hb hbytes d47) rfl (i0_eq_t rfl) (by decide) rfl ?_
          refine iconstV X18.here hexec rfl 0 (hb hbytes d54) (by decide) ?_
          exact Steps.refl _)
        exact ⟨T18, some (.int 0), _, _, _, X18, rfl, rfl, rfl, (fun h => by cases h), ⟨0, rfl, q18.trans hh16, Or.inr ⟨rfl, fun q => he (iff.mpr q)⟩⟩, fun fs hl => c19.trans (X18.ireturnOut hexec hret rfl (Or.inr (Or.inl rfl)) (hb hbytes d55) hl)⟩
    · have c13 : Steps p.tables e below (s₁.setTop (entryFrame m #[.ref x, .ref y] 3)) (T11.setTop (mkF m 55 #[.val (.ref x), .val (.ref y), .val (.ref y)] [.int 0])) := c12.trans (by
        refine XS.icmpYes X11.here hexec rfl (pc0 := 33) rfl (hb hbytes d33) rfl (ii_ne_t hcd) (by decide) rfl ?_
        refine iconstV X11.here hexec rfl 0 (hb hbytes d54) (by decide) ?_
        exact Steps.refl _)
      exact ⟨T11, some (.int 0), _, _, _, X11, rfl, rfl, rfl, (fun h => by cases h), ⟨0, rfl, hh11, Or.inr ⟨rfl, Cod.dif hx.2.2.2.2.1 hy.2.2.2.2.1 hcd⟩⟩, fun fs hl => c13.trans (X11.ireturnOut hexec hret rfl (Or.inr (Or.inl rfl)) (hb hbytes d55) hl)⟩
theorem pays {l : Launch} {R : Room} {p : Program} {e : Env} {below : List Frame} {s : State} {sargs : Array Value} {len W : Nat} (x t : Addr) (V : Cell) (cd : Int32) (n : Nat) (f : Nat → Int32) (y t' : Addr) (V' : Cell) (cd' : Int32) (k : Nat) (g : Nat → Int32) (z : Int32) (htab : tab.before sargs s = true) (hfr : 2 ≤ R.frames) (hlo : W + 28 ≤ R.locals) :
    Back l R p e below s sargs yN len W (fun A₁ a₁ => A₁.cells + 0 ≤ R.cells ∧ A₁.slots + 0 ≤ R.slots ∧ P x t V cd n f y t' V' cd' k g z a₁ A₁.U) (fun A₁ _ v₁ B₁ => Says01 (SameT n f k g) v₁ A₁.U B₁.U ∧ B₁.locs = A₁.locs ++ [] ∧ B₁.cells = A₁.cells + 0 ∧ B₁.slots = A₁.slots + 0) :=
  (law l x t V cd n f y t' V' cd' k g z).pays htab hfr (by omega)
end SEq
end StrChars
namespace StrChars.Road
open Jvm Sem ClassFile Op Lib Jvm.Stand Jvm.Free Jvm.Free.XT
open Jvm.Lib.Cold (StaticIs)
/-- the words of String.equals(Object) -/
abbrev wordsEq : List Jvm.Cond := [.code SEq.yN SEq.yB 3 (some .boolean), .initialized ST, .classLink ST 10 ST, .fieldLink ST 38 ST "COMPACT_STRINGS" "Z", .fieldLink ST 15 ST "coder" "B", .fieldLink ST 9 ST "value" "[B", .methodLink ST 541 LEq.yN, .static LEq.yN, .code LEq.yN LEq.yB 3 (some .boolean), .initialized "java/lang/StringLatin1"]
theorem tabEq_of {a : Array Value} {s : State} (h : ∀ w ∈ wordsEq, w.before a s = true) : SEq.tab.before a s = true := by
  have hl : LEq.tab.before a s = true := unparts (wk h (.code LEq.yN LEq.yB 3 (some .boolean))) (wks h (.initialized LEq.yN.cls :: LEq.site))
  have q := consq hl h
  exact unparts (wk q (.code SEq.yN SEq.yB 3 (some .boolean))) (wks q (.initialized SEq.yN.cls :: SEq.site))
theorem movedEq {Z s : State} {a0 args : Array Value} (hZ : Z.Warmed39 s.vm) (hw : ∀ d ∈ wordsEq, d.before a0 Z = true) : ∀ d ∈ wordsEq, d.before args s = true := fun d hd => by
  have t : ∀ d ∈ wordsEq, (d.onTables && d.keepsFace) = true := by decide +kernel
  exact RoadKit.mv hZ (hw d hd) (t d hd)
/-- the road's facts of a String, as the laws ask it -/
theorem txt_of {Z U : State} {a0 : Array Value} {kI : Nat} (wi : (Jvm.Cond.instantiable ST kI).before a0 Z = true) (al : Z.vm.Alike U.vm) {x t : Addr} {kb : ClassId} {cs : List Int32} {cd N2 : Int32} {vs : List Value} (E : RoadKit.Exa Z U.heap x ST) (V : RoadKit.Fld Z U.heap x ST "value" "[B" (.ref t)) (C : RoadKit.Fld Z U.heap x ST "coder" "B" (.int cd)) (K : RoadKit.Arv Z U.heap t kb .byte N2 vs (.int 0)) (hc : CodA cs cd N2 vs) (hb : ∀ c ∈ cs, ¬ c < 0 ∧ ¬ (65535 : Int32) < c) (l2 : cs.length ≤ 4000) :
    ∃ A, Txt x t A cd cs.length (fun j => cs.getD j 0) U := by
  obtain ⟨A, K1, K2, K3, K4, K5, K6⟩ := K
  have hcod := hc.cod (by omega) K3 K5
  obtain ⟨D, fV, fC, hB, F1, F2, g1, g2, -, -⟩ := strObj wi al E V C
  exact ⟨A, ⟨_, hB.2.2.1, D, hB.1, rfl, by cases q : D.vm <;> first | rfl | exact absurd q (hB.2.1.2 _)⟩, Has.of hB F1 g1, Has.of hB F2 g2, ⟨K1.1, State.isArrayOf_alike al K1.2.1, K1.2.2, by rcases hcod with ⟨-, q, -⟩ | ⟨-, q, -⟩ <;> omega⟩, hcod, fun j hj => by
    have e : cs.getD j 0 = cs[j] := by simp [List.getD_eq_getElem?_getD, hj]
    show ¬ cs.getD j 0 < 0 ∧ ¬ 65535 < cs.getD j 0
    rw [e]; exact hb _ (List.getElem_mem _)⟩
theorem same_list (cs ds : List Int32) : SameT cs.length (fun j => cs.getD j 0) ds.length (fun j => ds.getD j 0) ↔ cs = ds := by
  constructor
  · rintro ⟨e, q⟩
    refine List.ext_getElem e fun j h1 h2 => ?_
    have := q j h1
    simpa [List.getD_eq_getElem?_getD, h1, h2] using this
  · rintro rfl
    exact ⟨rfl, fun _ _ => rfl⟩
/-- **equals(Object) OF TWO SUCH STRINGS**: 1 just where the chars are the same -/
theorem eqW {p : Program} {l : Launch} {e : Env} {R : Room} {s : State} {args : Array Value} {below : List Frame} {len W : Nat} {Z : State} {a0 : Array Value} {h : Heap} (hZ : Z.Warmed39 s.vm) (hw : ∀ d ∈ wordsEq, d.before a0 Z = true) {kI : Nat} (wi : (Jvm.Cond.instantiable ST kI).before a0 Z = true)
    {x t : Addr} {kb : ClassId} {cs : List Int32} {cd N2 : Int32} {vs : List Value} (E : RoadKit.Exa Z h x ST) (V : RoadKit.Fld Z h x ST "value" "[B" (.ref t)) (C : RoadKit.Fld Z h x ST "coder" "B" (.int cd)) (K : RoadKit.Arv Z h t kb .byte N2 vs (.int 0)) (hc : CodA cs cd N2 vs) (hb : ∀ c ∈ cs, ¬ c < 0 ∧ ¬ (65535 : Int32) < c) (l2 : cs.length ≤ 4000)
    {y t' : Addr} {kb' : ClassId} {ds : List Int32} {cd' N2' : Int32} {vs' : List Value} (E' : RoadKit.Exa Z h y ST) (V' : RoadKit.Fld Z h y ST "value" "[B" (.ref t')) (C' : RoadKit.Fld Z h y ST "coder" "B" (.int cd')) (K' : RoadKit.Arv Z h t' kb' .byte N2' vs' (.int 0)) (hc' : CodA ds cd' N2' vs') (hb' : ∀ c ∈ ds, ¬ c < 0 ∧ ¬ (65535 : Int32) < c) (l2' : ds.length ≤ 4000)
    {z : Int32} (S : RoadKit.Sta Z h ST "COMPACT_STRINGS" "Z" (.int z)) (hz : ¬ z = 0) (hfr : 2 ≤ R.frames) (hlo : W + 28 ≤ R.locals) :
    Back l R p e below s args (⟨"java/lang/String", "equals", "(Ljava/lang/Object;)Z"⟩ : MethodName) len W (fun P a => a = #[.ref x, .ref y] ∧ P.U.heap = h ∧ P.cells + 0 ≤ R.cells ∧ P.slots + 0 ≤ R.slots)
      (fun P _ v B => ∃ L, (((v = some (.int 1) ∧ cs = ds) ∨ (v = some (.int 0) ∧ ¬ cs = ds)) ∧ L = [] ∧ B.U.heap = h) ∧ B.locs = P.locs ++ L ∧ B.cells = P.cells + 0 ∧ B.slots = P.slots + 0) := by
  intro m meth c P g ig mk a X hg hsize hdg hW hn hp'
  obtain ⟨rfl, rfl, r1, r2⟩ := hp'
  have al : Z.vm.Alike P.U.vm := hZ.alike.trans X.warmed.alike
  obtain ⟨A, hx⟩ := txt_of wi al E V C K hc hb l2
  obtain ⟨A', hy⟩ := txt_of wi al E' V' C' K' hc' hb' l2'
  obtain ⟨v, B, X', ⟨⟨w, hv, hh, hq⟩, hl, hk, hs⟩, st⟩ := SEq.pays x t A cd cs.length (fun j => cs.getD j 0) y t' A' cd' ds.length (fun j => ds.getD j 0) z (tabEq_of (movedEq hZ hw)) hfr hlo m meth c P g ig mk _ X hg hsize hdg hW hn ⟨r1, r2, rfl, hx, hy, sta_is al S, hz⟩
  refine ⟨v, B, X', ⟨[], ⟨?_, rfl, hh⟩, hl, hk, hs⟩, st⟩
  rcases hq with ⟨rfl, q⟩ | ⟨rfl, q⟩
  · exact Or.inl ⟨hv, (same_list cs ds).mp q⟩
  · exact Or.inr ⟨hv, fun e => q ((same_list cs ds).mpr e)⟩
end StrChars.Road
namespace StrChars.Road
open Jvm Sem ClassFile Op Lib Jvm.Stand Jvm.Free Jvm.Free.XT
open Jvm.Lib.Cold (StaticIs)
/-- what backV says of its String, as the contracts of this text ask it: cs's low bytes, coder 0 -/
theorem codOf {cs : List Int32} {n : Nat} (hn : cs.length = n) (hb : ∀ c ∈ cs, ¬ 255 < c) : CodA cs 0 (Int32.ofNat n) ((cs.map lo8).map Value.int) := Or.inl ⟨rfl, by rw [hn], by simp [List.map_map, Function.comp_def], hb⟩
end StrChars.Road
end Jvm.Pilot.@@N@@
namespace Jvm.Pilot.@@N@@
namespace W
open Jvm Jvm.ClassFile Sem Op Lib Jvm.Free Jvm.Stand Jvm.LawKit Jvm.RoadKit Bundle
/-- x is a String of the chars cs -/
def Str (Z : State) (h : Heap) (x : Addr) (cs : List Int32) : Prop := ∃ (t : Addr) (kb : ClassId) (N cd : Int32) (vs : List Value), Exa Z h x "java/lang/String" ∧ Fld Z h x "java/lang/String" "value" "[B" (.ref t) ∧ Fld Z h x "java/lang/String" "coder" "B" (.int cd) ∧ Arv Z h t kb .byte N vs (.int 0) ∧ StrChars.Road.CodA cs cd N vs ∧ (∀ c ∈ cs, ¬ c < 0 ∧ ¬ (65535 : Int32) < c) ∧ cs.length ≤ 4000
theorem Str.ext {Z : State} {h h' : Heap} {x : Addr} {cs : List Int32} (S : Str Z h x cs) (E : Ext h h') : Str Z h' x cs := by
  obtain ⟨t, kb, N, cd, vs, a, b, c, d, r⟩ := S; exact ⟨t, kb, N, cd, vs, a.ext E, b.ext E, c.ext E, d.ext E, r⟩
theorem Str.exa {Z : State} {h : Heap} {x : Addr} {cs : List Int32} (S : Str Z h x cs) : Exa Z h x "java/lang/String" := by
  obtain ⟨t, kb, N, cd, vs, a, r⟩ := S; exact a
theorem Str.keepExa {Z : State} {h h' : Heap} {x y : Addr} {cs : List Int32} {C : String} {n : Nat} {a0 : Array Value} (S : Str Z h x cs) (K : Keep h h' [y]) (E : Exa Z h y C) (wi : (Jvm.Cond.instantiable C n).before a0 Z = true) (hC : C ≠ "java/lang/String" := by decide) : Str Z h' x cs := by
  obtain ⟨t, kb, N, cd, vs, a, b, c, d, r⟩ := S
  have n1 : x ≠ y := Exa.ne a E (Ne.symm hC)
  have n2 : t ≠ y := Ne.symm (Exa.neArv E d wi)
  exact ⟨t, kb, N, cd, vs, a.keep K, b.keep K (ninS n1 nin0), c.keep K (ninS n1 nin0), d.keep K (ninS n2 nin0), r⟩
/-- null, or such a String -/
def OStr (Z : State) (h : Heap) (v : Value) (o : Option (List Int32)) : Prop := (v = .null ∧ o = none) ∨ ∃ a cs, v = .ref a ∧ o = some cs ∧ Str Z h a cs
theorem OStr.ext {Z : State} {h h' : Heap} {v : Value} {o : Option (List Int32)} (S : OStr Z h v o) (E : Ext h h') : OStr Z h' v o := by
  rcases S with q | ⟨a, cs, q1, q2, q3⟩
  · exact Or.inl q
  · exact Or.inr ⟨a, cs, q1, q2, q3.ext E⟩
theorem OStr.isRef {Z : State} {h : Heap} {v : Value} {o : Option (List Int32)} (S : OStr Z h v o) : v.isRef = true := by
  rcases S with ⟨rfl, -⟩ | ⟨a, cs, rfl, -⟩ <;> rfl
end W
end Jvm.Pilot.@@N@@
namespace Jvm.Pilot.@@N@@
namespace W
open Jvm Jvm.ClassFile Sem Op Lib Jvm.Free Jvm.Stand Jvm.LawKit Jvm.RoadKit Bundle
theorem i32 {n : Nat} (h : n < 2147483648) : (Int32.ofNat n).toInt = n := Int32.toInt_ofNat_of_lt h
theorem n32 {n : Nat} (h : n < 2147483648) : (Int32.ofNat n).toNatClampNeg = n := by rw [Int32.toNatClampNeg, i32 h]; rfl
theorem nn32 {n : Nat} (h : n < 2147483648) : ¬ Int32.ofNat n < 0 := by
  rw [Int32.lt_iff_toInt_lt, i32 h]; have e : (0 : Int32).toInt = 0 := rfl; omega
theorem lt32 {i n : Nat} (hi : i < 2147483648) (hn : n < 2147483648) : Int32.ofNat i < Int32.ofNat n ↔ i < n := by
  rw [Int32.lt_iff_toInt_lt, i32 hi, i32 hn]; omega
theorem eq32 {i n : Nat} (hi : i < 2147483648) (hn : n < 2147483648) : Int32.ofNat i = Int32.ofNat n ↔ i = n := by
  rw [← Int32.toInt_inj, i32 hi, i32 hn]; omega
theorem succ32 (i : Nat) : Int32.ofNat i + Int32.ofInt 1 = Int32.ofNat (i + 1) := by
  rw [Int32.ofNat_add]; rfl
theorem shl1 (n : Nat) : Int32.ofNat n <<< ((1 : Int32) &&& 31) = Int32.ofNat (2 * n) := by
  have e : ((1 : Int32) &&& 31) = 1 := by decide
  rw [e]
  apply Int32.toBitVec_inj.mp
  rw [Int32.toBitVec_shiftLeft]
  have e1 : ((1 : Int32).toBitVec.smod 32) = 1#32 := by decide
  rw [e1, BitVec.shiftLeft_eq']
  apply BitVec.eq_of_toNat_eq
  show ((BitVec.ofNat 32 n) <<< 1).toNat = (BitVec.ofNat 32 (2 * n)).toNat
  rw [BitVec.toNat_shiftLeft, BitVec.toNat_ofNat, BitVec.toNat_ofNat, Nat.shiftLeft_eq]
  omega
theorem nar8 (x : Int32) : nar .byte (StrChars.lo8 x) = StrChars.lo8 x := by
  show (x.toInt8.toInt32).toInt8.toInt32 = x.toInt8.toInt32
  rw [Int8.toInt8_toInt32]
theorem stI {ls ls2 : Array Slot} {k : Nat} {v : Int32} {o : Slot} (hold : ls[k]? = some o) (ho : One o) (h2 : ls.setIfInBounds k (.val (.int v)) = ls2) : storeLocals ls k (.int v) = some ls2 := by
  rw [← h2]; exact Jvm.Free.XS.store1 hold ho rfl
theorem safe0 {Z : State} {vm : Vm} {h : Heap} {x : Addr} : Safe Z [] vm h x := fun B => by obtain ⟨q, hq, -⟩ := B; cases hq
def upd (f : Nat → Int32) (i : Nat) (v : Int32) : Nat → Int32 := fun j => if j = i then v else f j
/-- the array a holds the n ints f 0 .. f (n - 1) -/
def Arg (Z : State) (h : Heap) (a : Addr) (k : ClassId) (ty : FieldType) (n : Nat) (f : Nat → Int32) : Prop := ∃ vs : List Value, Arv Z h a k ty (Int32.ofNat n) vs (.int 0) ∧ vs.length = n ∧ n < 2147483648 ∧ ∀ i, i < n → vs.getD i (.int 0) = .int (f i)
section A
variable {Z : State} {h h' : Heap} {a b : Addr} {k : ClassId} {ty : FieldType} {n : Nat} {f g : Nat → Int32}
theorem Arg.ext (A : Arg Z h a k ty n f) (E : Ext h h') : Arg Z h' a k ty n f := by obtain ⟨vs, q, r⟩ := A; exact ⟨vs, q.ext E, r⟩
theorem Arg.keep {ws : List Addr} (A : Arg Z h a k ty n f) (K : Keep h h' ws) (q : a ∉ ws) : Arg Z h' a k ty n f := by obtain ⟨vs, r, t⟩ := A; exact ⟨vs, r.keep K q, t⟩
theorem Arg.other {sl : Nat} {v : Value} (A : Arg Z h b k ty n f) (W : Wr h h' a sl v) (q : b ≠ a) : Arg Z h' b k ty n f := by obtain ⟨vs, r, t⟩ := A; exact ⟨vs, r.other W q, t⟩
theorem Arg.lt (A : Arg Z h a k ty n f) : a < h.size := by obtain ⟨vs, r, t⟩ := A; exact r.lt
theorem Arg.arv (A : Arg Z h a k ty n f) : ∃ vs, Arv Z h a k ty (Int32.ofNat n) vs (.int 0) := by obtain ⟨vs, r, t⟩ := A; exact ⟨vs, r⟩
theorem Arg.small (A : Arg Z h a k ty n f) : n < 2147483648 := by obtain ⟨vs, r, t, u, -⟩ := A; exact u
theorem Arg.congr (A : Arg Z h a k ty n f) (q : ∀ i, i < n → f i = g i) : Arg Z h a k ty n g := by obtain ⟨vs, r, t, u, w⟩ := A; exact ⟨vs, r, t, u, fun i hi => by rw [w i hi, q i hi]⟩
theorem Arg.new (hn : n < 2147483648) (V : Arv Z h a k ty (Int32.ofNat n) (List.replicate (Int32.ofNat n).toNatClampNeg (.int 0)) (.int 0)) : Arg Z h a k ty n (fun _ => 0) := ⟨_, V, by rw [List.length_replicate, n32 hn], hn, fun i hi => by
  rw [n32 hn]; simp [List.getD_eq_getElem?_getD, hi]⟩
end A
section P
variable {p : Program} {l : Launch} {e : Env} {R : Room} {s : State} {m : MethodId} {args : Array Value} {below : List Frame} {meth : Method} {c : Code} {code : ByteArray} {Z : State} {EL : List (String × Nat)} {wl : List Addr} {hS : Heap} {own : String} {vm0 : Vm} {T : State} {locs : List Loc} {cells slots : Nat} {h : Heap} {a0 : Array Value} {G : Outcome → State → Prop} {pc pc1 pc2 : Nat} {ls ls2 : Array Slot} {st : List Value}
theorem Pos.ldCg (P : Pos p l e R s m args below meth c code Z EL wl hS own vm0 T locs cells slots h) {a : Addr} {k : ClassId} {n i : Nat} {f : Nat → Int32} (V : Arg Z h a k .char n f) (hi : i < n) (hd : decode code pc = .ok (.caload, 1)) (hp : pc + 1 = pc1) (K : Go p.tables e below G (T.setTop (mkF m pc1 ls (.int (f i) :: st)))) : Go p.tables e below G (T.setTop (mkF m pc ls (.int (Int32.ofNat i) :: .ref a :: st))) := by
  obtain ⟨vs, r, t, u, w⟩ := V
  exact P.ldC r (nn32 (by omega)) (by rw [n32 (by omega), n32 u]; exact hi) (by rw [n32 (by omega)]; exact w i hi) hd hp K
theorem Pos.ldBg (P : Pos p l e R s m args below meth c code Z EL wl hS own vm0 T locs cells slots h) {a : Addr} {k : ClassId} {n i : Nat} {f : Nat → Int32} (V : Arg Z h a k .byte n f) (hi : i < n) (hd : decode code pc = .ok (.baload, 1)) (hp : pc + 1 = pc1) (K : Go p.tables e below G (T.setTop (mkF m pc1 ls (.int (f i) :: st)))) : Go p.tables e below G (T.setTop (mkF m pc ls (.int (Int32.ofNat i) :: .ref a :: st))) := by
  obtain ⟨vs, r, t, u, w⟩ := V
  exact P.ldB r (nn32 (by omega)) (by rw [n32 (by omega), n32 u]; exact hi) (by rw [n32 (by omega)]; exact w i hi) hd hp K
theorem Arg.set_ {a : Addr} {k : ClassId} {ty : FieldType} {n i : Nat} {f : Nat → Int32} {vs : List Value} {v : Int32} (V : Arv Z h a k ty (Int32.ofNat n) (vs.set i (.int v)) (.int 0)) (t : vs.length = n) (u : n < 2147483648) (w : ∀ i, i < n → vs.getD i (.int 0) = .int (f i)) : Arg Z h a k ty n (upd f i v) := by
  refine ⟨_, V, by rw [List.length_set]; exact t, u, fun j hj => ?_⟩
  simp only [List.getD_eq_getElem?_getD, List.getElem?_set, upd]
  by_cases q : i = j
  · subst q; simp [t, hj]
  · rw [if_neg q, if_neg (Ne.symm q), ← List.getD_eq_getElem?_getD]; exact w j hj
theorem Pos.stBg (P : Pos p l e R s m args below meth c code Z EL wl hS own vm0 T locs cells slots h) {a : Addr} {k : ClassId} {n i : Nat} {f : Nat → Int32} {x : Int32} (V : Arg Z h a k .byte n f) (hi : i < n) (ga : a ∈ wl ∨ hS.size ≤ a) (S : Safe Z EL vm0 h a) (hd : decode code pc = .ok (.bastore, 1)) (hp : pc + 1 = pc1)
    (K : ∀ (T' : State) (h' : Heap), Pos p l e R s m args below meth c code Z EL wl hS own vm0 T' (locs ++ [⟨a, (Int32.ofNat i).toNatClampNeg⟩]) cells slots h' → Wr h h' a (Int32.ofNat i).toNatClampNeg (.int (nar .byte x)) → Arg Z h' a k .byte n (upd f i (nar .byte x)) → Go p.tables e below G (T'.setTop (mkF m pc1 ls st))) : Go p.tables e below G (T.setTop (mkF m pc ls (.int x :: .int (Int32.ofNat i) :: .ref a :: st))) := by
  obtain ⟨vs, r, t, u, w⟩ := V
  exact P.stB r (nn32 (by omega)) (n32 (by omega)) (by omega) (by rw [n32 u, t]) ga S hd hp (fun T' h' P' W' V' => K T' h' P' W' (Arg.set_ V' t u w))
theorem Pos.stCg (P : Pos p l e R s m args below meth c code Z EL wl hS own vm0 T locs cells slots h) {a : Addr} {k : ClassId} {n i : Nat} {f : Nat → Int32} {x : Int32} (V : Arg Z h a k .char n f) (hi : i < n) (ga : a ∈ wl ∨ hS.size ≤ a) (S : Safe Z EL vm0 h a) (hd : decode code pc = .ok (.castore, 1)) (hp : pc + 1 = pc1)
    (K : ∀ (T' : State) (h' : Heap), Pos p l e R s m args below meth c code Z EL wl hS own vm0 T' (locs ++ [⟨a, (Int32.ofNat i).toNatClampNeg⟩]) cells slots h' → Wr h h' a (Int32.ofNat i).toNatClampNeg (.int (nar .char x)) → Arg Z h' a k .char n (upd f i (nar .char x)) → Go p.tables e below G (T'.setTop (mkF m pc1 ls st))) : Go p.tables e below G (T.setTop (mkF m pc ls (.int x :: .int (Int32.ofNat i) :: .ref a :: st))) := by
  obtain ⟨vs, r, t, u, w⟩ := V
  exact P.stC r (nn32 (by omega)) (n32 (by omega)) (by omega) (by rw [n32 u, t]) ga S hd hp (fun T' h' P' W' V' => K T' h' P' W' (Arg.set_ V' t u w))
theorem Pos.lenG (P : Pos p l e R s m args below meth c code Z EL wl hS own vm0 T locs cells slots h) {a : Addr} {k : ClassId} {ty : FieldType} {n : Nat} {f : Nat → Int32} (V : Arg Z h a k ty n f) (hd : decode code pc = .ok (.arraylength, 1)) (hp : pc + 1 = pc1) (K : Go p.tables e below G (T.setTop (mkF m pc1 ls (.int (Int32.ofNat n) :: st)))) : Go p.tables e below G (T.setTop (mkF m pc ls (.ref a :: st))) := by
  obtain ⟨vs, r⟩ := V.arv; exact P.len r hd hp K
end P
theorem Arg.list {Z : State} {h : Heap} {a : Addr} {k : ClassId} {ty : FieldType} {n : Nat} {f : Nat → Int32} {cs : List Int32} (A : Arg Z h a k ty n f) (hl : cs.length = n) (q : ∀ i, i < n → f i = cs.getD i 0) : Arv Z h a k ty (Int32.ofNat n) (cs.map Value.int) (.int 0) := by
  obtain ⟨vs, V, t, u, w⟩ := A
  refine V.pad (fun i => ?_)
  by_cases hi : i < n
  · rw [w i hi, q i hi]
    simp only [List.getD_eq_getElem?_getD, List.getElem?_map]
    rw [List.getElem?_eq_getElem (by omega)]; rfl
  · simp only [List.getD_eq_getElem?_getD]
    rw [List.getElem?_eq_none (by simp; omega), List.getElem?_eq_none (by omega)]
theorem Arg.safe {Z : State} {h : Heap} {a : Addr} {k : ClassId} {ty : FieldType} {n : Nat} {f : Nat → Int32} {EL : List (String × Nat)} {vm : Vm} (hal : Z.vm.Alike vm) (A : Arg Z h a k ty n f) (ht : ty ≠ .byte) : Safe Z EL vm h a := by
  obtain ⟨vs, V, -⟩ := A; exact Safe.arv hal V ht
/-- how n chars f lie in N bytes g, by the coder cd -/
def Cdd (n : Nat) (f : Nat → Int32) (cd : Int32) (N : Nat) (g : Nat → Int32) : Prop := (cd = 0 ∧ N = n ∧ ∀ i, i < n → g i = StrChars.lo8 (f i) ∧ ¬ (255 : Int32) < f i) ∨ (cd = 1 ∧ N = 2 * n ∧ (∀ i, i < n → g (2 * i) = StrChars.lo8 (f i) ∧ g (2 * i + 1) = StrChars.hi8 (f i)) ∧ ∃ i, i < n ∧ (255 : Int32) < f i)
/-- x is a String of the n chars f -/
def UStr (Z : State) (h : Heap) (x : Addr) (n : Nat) (f : Nat → Int32) : Prop := ∃ (t : Addr) (kb : ClassId) (cd : Int32) (N : Nat) (g : Nat → Int32), Exa Z h x "java/lang/String" ∧ Fld Z h x "java/lang/String" "value" "[B" (.ref t) ∧ Fld Z h x "java/lang/String" "coder" "B" (.int cd) ∧ Arg Z h t kb .byte N g ∧ Cdd n f cd N g ∧ (∀ i, i < n → ¬ f i < 0 ∧ ¬ (65535 : Int32) < f i) ∧ 2 * n < 2147483648
theorem UStr.ext {Z : State} {h h' : Heap} {x : Addr} {n : Nat} {f : Nat → Int32} (S : UStr Z h x n f) (E : Ext h h') : UStr Z h' x n f := by
  obtain ⟨t, kb, cd, N, g, a, b, c, d, r⟩ := S; exact ⟨t, kb, cd, N, g, a.ext E, b.ext E, c.ext E, d.ext E, r⟩
theorem UStr.exa {Z : State} {h : Heap} {x : Addr} {n : Nat} {f : Nat → Int32} (S : UStr Z h x n f) : Exa Z h x "java/lang/String" := by
  obtain ⟨t, kb, cd, N, g, a, r⟩ := S; exact a
theorem UStr.congr {Z : State} {h : Heap} {x : Addr} {n : Nat} {f f' : Nat → Int32} (S : UStr Z h x n f) (q : ∀ i, i < n → f i = f' i) : UStr Z h x n f' := by
  obtain ⟨t, kb, cd, N, g, a, b, c, d, r, u, w⟩ := S
  refine ⟨t, kb, cd, N, g, a, b, c, d, ?_, fun i hi => by rw [← q i hi]; exact u i hi, w⟩
  rcases r with ⟨r1, r2, r3⟩ | ⟨r1, r2, r3, j, r4, r5⟩
  · exact Or.inl ⟨r1, r2, fun i hi => by rw [← q i hi]; exact r3 i hi⟩
  · exact Or.inr ⟨r1, r2, fun i hi => by rw [← q i hi]; exact r3 i hi, j, r4, by rw [← q j r4]; exact r5⟩
theorem Arg.of {Z : State} {h : Heap} {a : Addr} {k : ClassId} {ty : FieldType} {vs : List Value} {f : Nat → Int32} (n : Nat) (V : Arv Z h a k ty (Int32.ofNat n) vs (.int 0)) (hl : vs.length = n) (hn : n < 2147483648) (w : ∀ i, i < n → vs.getD i (.int 0) = .int (f i)) : Arg Z h a k ty n f := ⟨vs, V, hl, hn, w⟩
theorem Cdd.cd {n : Nat} {f : Nat → Int32} {cd : Int32} {N : Nat} {g : Nat → Int32} (h : Cdd n f cd N g) : cd = 0 ∨ cd = 1 := h.imp (fun q => q.1) (fun q => q.1)
theorem Cdd.len {n : Nat} {f : Nat → Int32} {cd : Int32} {N : Nat} {g : Nat → Int32} (h : Cdd n f cd N g) (hn : 2 * n < 2147483648) : Int32.ofNat N >>> (cd &&& 31) = Int32.ofNat n := by
  rcases h with ⟨rfl, rfl, -⟩ | ⟨rfl, rfl, -⟩
  · exact StrChars.shr0 _
  · exact StrChars.shr1 hn
theorem Cdd.cfal {n : Nat} {f : Nat → Int32} {cd : Int32} {N : Nat} {g : Nat → Int32} (h : Cdd n f cd N g) (h0 : 0 < n) (hn : 2 * n < 2147483648) : (Jvm.Free.XT.ushr (Int32.ofNat n - Int32.ofNat N) 31).toInt8.toInt32 = cd := by
  rcases h with ⟨rfl, rfl, -⟩ | ⟨rfl, rfl, -⟩
  · rw [Int32.sub_self]; decide
  · have e : Jvm.Free.XT.ushr (Int32.ofNat n - Int32.ofNat (2 * n)) 31 = 1 := by
      unfold Jvm.Free.XT.ushr
      have e0 : ((31 : Int32) &&& 31).toUInt32 = 31 := by decide
      rw [e0]
      apply Int32.toBitVec_inj.mp
      apply BitVec.eq_of_toNat_eq
      show ((Int32.ofNat n - Int32.ofNat (2 * n)).toUInt32 >>> (31 : UInt32)).toNat = 1
      rw [UInt32.toNat_shiftRight]
      have e1 : (Int32.ofNat n - Int32.ofNat (2 * n)).toUInt32.toNat = 4294967296 - n := by
        show (BitVec.ofNat 32 n - BitVec.ofNat 32 (2 * n)).toNat = _
        rw [BitVec.toNat_sub, BitVec.toNat_ofNat, BitVec.toNat_ofNat]; omega
      rw [e1, Nat.shiftRight_eq_div_pow]
      show (4294967296 - n) / 2147483648 = 1
      omega
    rw [e]; decide
end W
end Jvm.Pilot.@@N@@
namespace Jvm.Pilot.@@N@@
namespace W
open Jvm Jvm.ClassFile Sem Op Lib Jvm.Free Jvm.Stand Jvm.LawKit Jvm.RoadKit Bundle
theorem declares_of {Z : State} {a0 : Array Value} {y : MethodName} {bytes : ByteArray} {maxL : Nat} {ret : Option FieldType} (wi : (Jvm.Cond.instanceMethod y).before a0 Z = true) (wc : (Jvm.Cond.code y bytes maxL ret).before a0 Z = true) : (Jvm.Cond.declares y).before a0 Z = true := by
  obtain ⟨mk, meth, hn, hm, hs, -⟩ := Cond.instanceMethod_spec wi
  obtain ⟨m2, cM, q1, -, -, -, -, -, -, hsig⟩ := Cond.code_spec hn wc
  cases hm.symm.trans q1
  simp [Cond.before, Cond.holds, Cond.value, hn, hm, hs, hsig]
/-- a class that declares a method of its own, and is no interface, finds it -/
theorem same_of {Z : State} {a0 : Array Value} {y z : MethodName} (wi : (Jvm.Cond.instanceMethod y).before a0 Z = true) (hz : z.cls = y.cls) (wz : (Jvm.Cond.instanceMethod z).before a0 Z = true) (nf : NotFace Z z) (hy : y.cls ≠ "java/lang/invoke/MethodHandle" ∧ y.cls ≠ "java/lang/invoke/VarHandle") : (Jvm.Cond.sameMethod y.cls y.cls y.name y.desc).before a0 Z = true := by
  obtain ⟨mk, meth, hn, hm, hs, -⟩ := Cond.instanceMethod_spec wi
  obtain ⟨mz, methz, hnz, -⟩ := Cond.instanceMethod_spec wz
  obtain ⟨k, hk, hi⟩ := nf mz hnz
  have hc := findClass_of_methodNamed hn
  have hcz := findClass_of_methodNamed hnz
  rw [hz, hc] at hcz
  have e : mk.cls = mz.cls := Option.some.inj hcz
  have hf := State.methodFound?_of_named hn hy
  have hn' : Z.methodNamed? ⟨y.cls, y.name, y.desc⟩ = some mk := hn
  simp [Cond.before, Cond.holds, Cond.value, hc, hf, hn', e, hk, hi]
theorem nf_of {s : State} {args : Array Value} {y z : MethodName} (hz : z.cls = y.cls) (wz : (Jvm.Cond.instanceMethod z).before args s = true) (nf : NotFace s z) : NotFace s y := fun r0 h0 => by
  obtain ⟨mz, methz, hnz, -⟩ := Cond.instanceMethod_spec wz
  obtain ⟨k, hk, hi⟩ := nf mz hnz
  have hc := findClass_of_methodNamed h0
  have hcz := findClass_of_methodNamed hnz
  rw [hz, hc] at hcz
  have e : r0.cls = mz.cls := Option.some.inj hcz
  exact ⟨k, by rw [e]; exact hk, hi⟩
/-- what a copy of q places leaves -/
def cpy (f g : Nat → Int32) (sp dp q : Nat) : Nat → Int32 := fun j => if dp ≤ j ∧ j < dp + q then f (sp + (j - dp)) else g j
section P
variable {p : Program} {l : Launch} {e : Env} {R : Room} {s : State} {m : MethodId} {args : Array Value} {below : List Frame} {meth : Method} {c : Code} {code : ByteArray} {Z : State} {EL : List (String × Nat)} {wl : List Addr} {hS : Heap} {own : String} {vm0 : Vm} {T : State} {locs : List Loc} {cells slots : Nat} {h : Heap} {a0 : Array Value} {G : Outcome → State → Prop} {pc pc1 pc2 : Nat} {ls ls2 : Array Slot} {st : List Value}
theorem Pos.copyB (P : Pos p l e R s m args below meth c code Z EL wl hS own vm0 T locs cells slots h) {index : Nat} {a b : Addr} {k k' : ClassId} {n N sp dp q W : Nat} {f g : Nat → Int32} (w1 : (Jvm.Cond.methodLink own index Jvm.Stand.acN).before a0 Z = true) (w2 : (Jvm.Cond.native Jvm.Stand.acN).before a0 Z = true) (w3 : (Jvm.Cond.static Jvm.Stand.acN).before a0 Z = true) (w4 : (Jvm.Cond.initialized "java/lang/System").before a0 Z = true) (A : Arg Z h a k .byte n f) (B : Arg Z h b k' .byte N g) (hsp : sp + q ≤ n) (hdp : dp + q ≤ N) (ga : b ∈ wl ∨ hS.size ≤ b) (S : Safe Z EL vm0 h b) (hsize : ls.size = c.maxLocals) (hf : 1 ≤ R.frames) (hW : (st.map fun v => v.category).sum ≤ W) (hl : W + 18 ≤ R.locals) (hd : decode code pc = .ok (.invokestatic index, 3)) (hp : pc + 3 = pc1)
    (K : ∀ (T' : State) (h' : Heap), Pos p l e R s m args below meth c code Z EL wl hS own vm0 T' (locs ++ Jvm.Stand.copyLocs b dp q) cells slots h' → Keep h h' [b] → Arg Z h' b k' .byte N (cpy f g sp dp q) → Go p.tables e below G (T'.setTop (mkF m pc1 ls st))) :
    Go p.tables e below G (T.setTop (mkF m pc ls (.int (Int32.ofNat q) :: .int (Int32.ofNat dp) :: .ref b :: .int (Int32.ofNat sp) :: .ref a :: st))) := by
  subst hp
  obtain ⟨vs, A, la, na, fa⟩ := A
  obtain ⟨vd, B, lb, nb, fb⟩ := B
  obtain ⟨cs, As, qs, Ss, -, Hs, Gs⟩ := A
  obtain ⟨cd, Ad, qd, Sd, Nd, Hd, Gd⟩ := B
  rw [n32 na] at Ss
  rw [n32 nb] at Sd
  obtain ⟨os, ks, hks, sc, hsk⟩ := State.isArrayOf_alike P.hz.alike As.2.1
  obtain ⟨od, kd, hkd, dc, hdk⟩ := State.isArrayOf_alike P.hz.alike Ad.2.1
  have gv : ∀ i, i < n → cs.slots.getD i .null = .int (f i) := fun i hi => by
    have := Hs i (by omega); rw [Array.getD_eq_getD_getElem?, this]; exact fa i hi
  have fv : ∀ i, i < n → fits .byte (.int (f i)) = true := fun i hi => by have := Gs i (by omega); rwa [fa i hi] at this
  have e1 : (Int32.ofNat sp).toNatClampNeg = sp := n32 (by omega)
  have e2 : (Int32.ofNat dp).toNatClampNeg = dp := n32 (by omega)
  have e3 : (Int32.ofNat q).toNatClampNeg = q := n32 (by omega)
  obtain ⟨vm₁, hW₁, X', stp⟩ := P.1.arraycopyK P.q.2.1 P.2.2.2.2.1 (mvT P.hz w1) (mvT P.hz w2) (mvT P.hz w3) (mvT P.hz w4) (src := a) (dst := b) (srcPos := Int32.ofNat sp) (destPos := Int32.ofNat dp) (n := Int32.ofNat q) (by rw [P.heap]; exact As.1) (by rw [P.heap]; exact Ad.1) os od As.2.2 Ad.2.2 hks hkd hsk hdk rfl (nn32 (by omega)) (nn32 (by omega)) (nn32 (by omega)) (by rw [i32 (by omega), i32 (by omega), Ss]; omega) (by rw [i32 (by omega), i32 (by omega), Sd]; omega)
    (fun vm₁ hw i hi => by rw [e3] at hi; rw [e1, gv (sp + i) (by omega)]; exact ⟨fv _ (by omega), trivial⟩) (g := mkF m pc ls (.int (Int32.ofNat q) :: .int (Int32.ofNat dp) :: .ref b :: .int (Int32.ofNat sp) :: .ref a :: st)) rfl hsize rfl (hb P.q.2.2 hd) hf (by
      have e : nativeFrameWords "java/lang/System" "arraycopy" 5 = 7 := by decide +kernel
      show 2 * 0 + _ + _ ≤ _; rw [e]; omega)
  rw [e2, e3] at X'
  have hbz : b < h.size := Ad.lt
  have cf : (copied cs cd (Int32.ofNat sp) (Int32.ofNat dp) (Int32.ofNat q)).cls = cd.cls ∧ (copied cs cd (Int32.ofNat sp) (Int32.ofNat dp) (Int32.ofNat q)).vm = cd.vm ∧ (copied cs cd (Int32.ofNat sp) (Int32.ofNat dp) (Int32.ofNat q)).slots.size = cd.slots.size := let q := cd.storeRun_facts (Int32.ofNat dp).toNatClampNeg (cs.stretch (Int32.ofNat sp).toNatClampNeg (Int32.ofNat q).toNatClampNeg); ⟨q.1, q.2.1, q.2.2.1⟩
  have sl : ∀ j, j < N → (copied cs cd (Int32.ofNat sp) (Int32.ofNat dp) (Int32.ofNat q)).slots[j]? = some (.int (cpy f g sp dp q j)) := fun j hj => by
    show (cd.storeRun _ (cs.stretch _ _)).slots[j]? = _
    have ll : (cs.stretch sp q).length = q := by simp [Cell.stretch]
    rw [e1, e2, e3, Cell.storeRun_get _ _ _ _ (by rw [ll, Sd]; exact hdp), ll]
    unfold cpy
    by_cases c1 : dp ≤ j ∧ j < dp + q
    · rw [if_pos c1, if_pos c1]
      have : (cs.stretch sp q)[j - dp]? = some (cs.slots.getD (sp + (j - dp)) .null) := by
        simp only [Cell.stretch, List.getElem?_map]; rw [List.getElem?_range (by omega)]; rfl
      rw [this, gv _ (by omega)]
    · rw [if_neg c1, if_neg c1]
      have := Hd j (by omega); rw [fb j hj] at this; exact this
  have fc : ∀ j, j < N → fits .byte (.int (cpy f g sp dp q j)) = true := fun j hj => by
    unfold cpy
    by_cases c1 : dp ≤ j ∧ j < dp + q
    · rw [if_pos c1]; exact fv _ (by omega)
    · rw [if_neg c1]; have := Gd j (by omega); rwa [fb j hj] at this
  generalize copied cs cd (Int32.ofNat sp) (Int32.ofNat dp) (Int32.ofNat q) = cc at *
  have eh : ((T.setVm vm₁).setCell b cc).heap = h.setIfInBounds b cc := by rw [← P.heap]; rfl
  have KK : Keep h (h.setIfInBounds b cc) [b] := by
    refine ⟨by simp, fun x c q r => ?_, fun x c q => ?_⟩
    · have : b ≠ x := fun z => r (by simp [z])
      rw [Array.getElem?_setIfInBounds_ne this]; exact q
    · by_cases u : b = x
      · subst u; cases Ad.1.symm.trans q
        exact ⟨_, by rw [Array.getElem?_setIfInBounds_self_of_lt hbz], cf.1, cf.2.1, cf.2.2⟩
      · exact ⟨c, by rw [Array.getElem?_setIfInBounds_ne u]; exact q, rfl, rfl, rfl⟩
  have AA : Arg Z (h.setIfInBounds b cc) b k' .byte N (cpy f g sp dp q) := by
    have gd : ∀ j, j < N → ((List.range N).map fun j => Value.int (cpy f g sp dp q j)).getD j (.int 0) = .int (cpy f g sp dp q j) := fun j hj => by
      rw [List.getD_eq_getElem?_getD, List.getElem?_map, List.getElem?_range hj]; rfl
    refine ⟨(List.range N).map fun j => Value.int (cpy f g sp dp q j), ⟨cc, ⟨by rw [Array.getElem?_setIfInBounds_self_of_lt hbz], ?_, by rw [cf.2.1]; exact Ad.2.2⟩, cf.1.trans qd, by rw [cf.2.2, Sd, n32 nb], Nd, fun j hj => ?_, fun j hj => ?_⟩, by simp, nb, gd⟩
    · have := Ad.2.1; unfold State.isArrayOf at this ⊢; rw [cf.1, cf.2.1]; exact this
    · rw [cf.2.2, Sd] at hj; rw [gd j hj]; exact sl j hj
    · rw [cf.2.2, Sd] at hj; rw [gd j hj]; exact fc j hj
  have PP := P.came X' (fun y hy => by rw [copyLocs_base hy]; exact ga) (by rw [eh]; exact CHr.keep KK (sfS S sf0) P.chv)
  rw [eh] at PP
  exact Go.via stp (K _ _ PP KK AA)
end P
end W
end Jvm.Pilot.@@N@@
namespace Jvm.Pilot.@@N@@
namespace W
open Jvm Jvm.ClassFile Sem Op Lib Jvm.Free Jvm.Stand Jvm.LawKit Jvm.RoadKit Bundle
def QEq (cs ds : List Int32) (h0 : Heap) (v : Option Value) (h : Heap) (L : List Loc) : Prop := ((v = some (.int 1) ∧ cs = ds) ∨ (v = some (.int 0) ∧ ¬ cs = ds)) ∧ L = [] ∧ h0 = h
theorem QEq.ok {cs ds : List Int32} {h0 : Heap} {Z : State} {EL : List (String × Nat)} {vm0 : Vm} {wl : List Addr} {n : Nat} (H : CHv Z EL vm0 h0) : ∀ u h L, QEq cs ds h0 u h L → Frw wl n L ∧ CHr Z EL vm0 h0 vm0 h := fun u h L q => by
  obtain ⟨-, rfl, rfl⟩ := q; exact ⟨Frw.nil, CHr.refl H⟩
theorem Str.eqPay {p : Program} {l : Launch} {e : Env} {R : Room} {s : State} {args : Array Value} {below : List Frame} {len k : Nat} {Z : State} {a0 : Array Value} {h : Heap} {vm0 : Vm} (hZ : Z.Warmed39 (s.setVm vm0).vm) (hw : ∀ d ∈ StrChars.Road.wordsEq, d.before a0 Z = true) (wi : (Jvm.Cond.instantiable "java/lang/String" 4).before a0 Z = true) {x y : Addr} {cs ds : List Int32} (S1 : Str Z h x cs) (S2 : Str Z h y ds) {z : Int32} (C : Sta Z h "java/lang/String" "COMPACT_STRINGS" "Z" (.int z)) (hz : ¬ z = 0) (hfr : 2 ≤ R.frames) (hlo : k + 28 ≤ R.locals) :
    Back l R p e below (s.setVm vm0) args (⟨"java/lang/String", "equals", "(Ljava/lang/Object;)Z"⟩ : MethodName) len k (fun P a => a = #[.ref x, .ref y] ∧ P.U.heap = h ∧ P.cells + 0 ≤ R.cells ∧ P.slots + 0 ≤ R.slots)
      (fun P _ v B => ∃ L, QEq cs ds h v B.U.heap L ∧ B.locs = P.locs ++ L ∧ B.cells = P.cells + 0 ∧ B.slots = P.slots + 0) := by
  obtain ⟨t, kb, N, cd, vs, a, b, c, d, f, g, i⟩ := S1
  obtain ⟨t', kb', N', cd', vs', a', b', c', d', f', g', i'⟩ := S2
  exact Back.mono (StrChars.Road.eqW hZ hw wi a b c d f g i a' b' c' d' f' g' i' C hz hfr hlo) (fun _ _ q => q) (fun _ _ _ _ _ q => by obtain ⟨L, ⟨q1, q2, q3⟩, r⟩ := q; exact ⟨L, ⟨q1, q2, q3.symm⟩, r⟩)
end W
end Jvm.Pilot.@@N@@
namespace Jvm.Pilot.@@N@@
open Jvm Jvm.ClassFile Sem Op Lib Jvm.Free Jvm.Stand Jvm.LawKit Jvm.RoadKit Bundle Jvm.Pilot.@@N@@.Jvm.D
/-- the descriptor of the callee's class, out of the Statement's own word -/
def own_cd : String := match tables_1[54]? with | some (Jvm.Cond.fieldLink _ _ _ _ d) => d | _ => ""
theorem wd {a0 : Array Value} {Z : State} (hw : ∀ d ∈ tables_1, d.before a0 Z = true) {k : Nat} {d : Jvm.Cond} (h : tables_1[k]? = some d) : d.before a0 Z = true := hw d (List.mem_of_getElem? h)
abbrev ownEL : List (String × Nat) := [(site_118.cls, 101), (site_118.cls, 103), (site_118.cls, 105), (site_118.cls, 107), (site_118.cls, 109), (site_118.cls, 111), (site_118.cls, 122), (site_118.cls, 124), (site_118.cls, 126), (site_118.cls, 128), (site_118.cls, 130)]
theorem own_atoms : ∀ d ∈ Bundle.stringAtoms, d ∈ tables_1 := by decide +kernel
theorem own_consts : ∀ p ∈ ownEL, p ∈ consts_1 := by decide +kernel
theorem own_words : ∀ d ∈ StrChars.Road.words, d ∈ tables_1 := by decide +kernel
theorem own_wordsEq : ∀ d ∈ StrChars.Road.wordsEq, d ∈ tables_1 := by decide +kernel
theorem own_up {c : Int32} (h : ¬ (255 : Int32) < c) : ¬ (65535 : Int32) < c := by
  rw [Int32.lt_iff_toInt_lt] at h ⊢
  have e0 : (255 : Int32).toInt = 255 := rfl
  have e1 : (65535 : Int32).toInt = 65535 := rfl
  omega
theorem own_m255 (x : Int32) : ¬ (x &&& 255) < 0 ∧ ¬ (255 : Int32) < (x &&& 255) := by
  have q := c_mask x 255 8 (by decide) (by decide)
  have e0 : (0 : Int32).toInt = 0 := rfl
  have e1 : (255 : Int32).toInt = 255 := rfl
  rw [Int32.lt_iff_toInt_lt, Int32.lt_iff_toInt_lt]; omega
theorem own_nar255 (x : Int32) : nar .char (x &&& 255) = x &&& 255 := i2c_mask x
theorem own_mask3 (x : Int32) : (x &&& 3) = 0 ∨ (x &&& 3) = 1 ∨ (x &&& 3) = 2 ∨ (x &&& 3) = 3 := by
  have q := c_mask x 3 2 (by decide) (by decide)
  have r : (x &&& 3).toInt = 0 ∨ (x &&& 3).toInt = 1 ∨ (x &&& 3).toInt = 2 ∨ (x &&& 3).toInt = 3 := by omega
  rcases r with r | r | r | r
  · exact Or.inl (Int32.toInt_inj.mp r)
  · exact Or.inr (Or.inl (Int32.toInt_inj.mp r))
  · exact Or.inr (Or.inr (Or.inl (Int32.toInt_inj.mp r)))
  · exact Or.inr (Or.inr (Or.inr (Int32.toInt_inj.mp r)))
theorem own_rem (y : Int32) (k : Int32) (h : 0 ≤ y.toInt) (hk : 0 < k.toInt) : (y - y / k * k).toInt = y.toInt % k.toInt := by
  have d : (y / k).toInt = y.toInt / k.toInt := by
    rw [Int32.toInt_div, Int.tdiv_eq_ediv_of_nonneg h]
    have h1 : 0 ≤ y.toInt / k.toInt := Int.ediv_nonneg h (by omega)
    have h2 : y.toInt / k.toInt ≤ y.toInt := Int.ediv_le_self _ h
    have h3 := y.toInt_lt
    rw [Int.bmod_eq_of_le (by omega) (by omega)]
  have e := Int.mul_ediv_add_emod y.toInt k.toInt
  have e' : y.toInt / k.toInt * k.toInt = k.toInt * (y.toInt / k.toInt) := Int.mul_comm _ _
  have m0 := Int.emod_nonneg y.toInt (show k.toInt ≠ 0 by omega)
  have h0 : 0 ≤ k.toInt * (y.toInt / k.toInt) := Int.mul_nonneg (by omega) (Int.ediv_nonneg h (by omega))
  have h3 := y.toInt_lt
  have q : (y / k * k).toInt = y.toInt / k.toInt * k.toInt := by
    rw [Int32.toInt_mul, d, Int.bmod_eq_of_le (by omega) (by omega)]
  rw [Int32.toInt_sub, q, Int.bmod_eq_of_le (by omega) (by omega)]; omega
theorem own_eqI {args : Array Value} {first s : State} {o : Option Outcome} {idx : List Nat} {t : Term} {k : Int32} (h : (Jvm.Cond.eq t (.int k)).value args first o s idx = some true) : t.eval args first o idx s = some (.int k) := by
  obtain ⟨x, y, e1, e2, -, k2⟩ := cmp_v (Or.inl h)
  cases Option.some.inj ((Term.int_eval k).symm.trans e2)
  obtain ⟨z, rfl⟩ := k2
  rw [e1, gotT (Cond.eq_ints e1 e2) h]
theorem own_rf {C : String} {v : Value} (h : v.isRef = true) : narrow (.object C) v = v ∧ fits (.object C) v = true := by cases v <;> first | (cases h; done) | exact ⟨rfl, rfl⟩
theorem d1_0 : decode jdk_42_method_139_code 0 = .ok (.getstatic 38, 3) := by decide +kernel
theorem d1_3 : decode jdk_42_method_139_code 3 = .ok (.ifCond .eq 23, 3) := by decide +kernel
theorem d1_6 : decode jdk_42_method_139_code 6 = .ok (.iload_n 0, 1) := by decide +kernel
theorem d1_7 : decode jdk_42_method_139_code 7 = .ok (.invokestatic 1015, 3) := by decide +kernel
theorem d1_10 : decode jdk_42_method_139_code 10 = .ok (.ifCond .eq 16, 3) := by decide +kernel
theorem d1_13 : decode jdk_42_method_139_code 13 = .ok (.new 10, 3) := by decide +kernel
theorem d1_16 : decode jdk_42_method_139_code 16 = .ok (.dup, 1) := by decide +kernel
theorem d1_17 : decode jdk_42_method_139_code 17 = .ok (.iload_n 0, 1) := by decide +kernel
theorem d1_18 : decode jdk_42_method_139_code 18 = .ok (.invokestatic 1018, 3) := by decide +kernel
theorem d1_21 : decode jdk_42_method_139_code 21 = .ok (.iconst 0, 1) := by decide +kernel
theorem d1_22 : decode jdk_42_method_139_code 22 = .ok (.invokespecial 209, 3) := by decide +kernel
theorem d1_25 : decode jdk_42_method_139_code 25 = .ok (.areturn, 1) := by decide +kernel
theorem d2_0 : decode jdk_43_method_3_code 0 = .ok (.iload_n 0, 1) := by decide +kernel
theorem d2_1 : decode jdk_43_method_3_code 1 = .ok (.sipush 255, 3) := by decide +kernel
theorem d2_4 : decode jdk_43_method_3_code 4 = .ok (.if_icmp .gt 7, 3) := by decide +kernel
theorem d2_7 : decode jdk_43_method_3_code 7 = .ok (.iconst 1, 1) := by decide +kernel
theorem d2_8 : decode jdk_43_method_3_code 8 = .ok (.goto 4, 3) := by decide +kernel
theorem d2_12 : decode jdk_43_method_3_code 12 = .ok (.ireturn, 1) := by decide +kernel
theorem d3_0 : decode jdk_43_method_46_code 0 = .ok (.iconst 1, 1) := by decide +kernel
theorem d3_1 : decode jdk_43_method_46_code 1 = .ok (.newarray .byte, 2) := by decide +kernel
theorem d3_3 : decode jdk_43_method_46_code 3 = .ok (.dup, 1) := by decide +kernel
theorem d3_4 : decode jdk_43_method_46_code 4 = .ok (.iconst 0, 1) := by decide +kernel
theorem d3_5 : decode jdk_43_method_46_code 5 = .ok (.iload_n 0, 1) := by decide +kernel
theorem d3_6 : decode jdk_43_method_46_code 6 = .ok (.i2b, 1) := by decide +kernel
theorem d3_7 : decode jdk_43_method_46_code 7 = .ok (.bastore, 1) := by decide +kernel
theorem d3_8 : decode jdk_43_method_46_code 8 = .ok (.areturn, 1) := by decide +kernel
theorem d4_0 : decode jdk_42_method_151_code 0 = .ok (.aload_n 0, 1) := by decide +kernel
theorem d4_1 : decode jdk_42_method_151_code 1 = .ok (.invokespecial 1, 3) := by decide +kernel
theorem d4_4 : decode jdk_42_method_151_code 4 = .ok (.aload_n 0, 1) := by decide +kernel
theorem d4_5 : decode jdk_42_method_151_code 5 = .ok (.aload_n 1, 1) := by decide +kernel
theorem d4_6 : decode jdk_42_method_151_code 6 = .ok (.putfield 9, 3) := by decide +kernel
theorem d4_9 : decode jdk_42_method_151_code 9 = .ok (.aload_n 0, 1) := by decide +kernel
theorem d4_10 : decode jdk_42_method_151_code 10 = .ok (.iload_n 2, 1) := by decide +kernel
theorem d4_11 : decode jdk_42_method_151_code 11 = .ok (.putfield 15, 3) := by decide +kernel
theorem d4_14 : decode jdk_42_method_151_code 14 = .ok (.return_, 1) := by decide +kernel
theorem d6_0 : decode method_4_code 0 = .ok (.iload_n 0, 1) := by decide +kernel
theorem d6_1 : decode method_4_code 1 = .ok (.ifCond .ne 28, 3) := by decide +kernel
theorem d6_4 : decode method_4_code 4 = .ok (.bipush 52, 2) := by decide +kernel
theorem d6_6 : decode method_4_code 6 = .ok (.newarray .char, 2) := by decide +kernel
theorem d6_8 : decode method_4_code 8 = .ok (.astore 4, 2) := by decide +kernel
theorem d6_10 : decode method_4_code 10 = .ok (.aload 4, 2) := by decide +kernel
theorem d6_12 : decode method_4_code 12 = .ok (.iconst 0, 1) := by decide +kernel
theorem d6_13 : decode method_4_code 13 = .ok (.iload_n 1, 1) := by decide +kernel
theorem d6_14 : decode method_4_code 14 = .ok (.iload_n 2, 1) := by decide +kernel
theorem d6_15 : decode method_4_code 15 = .ok (.iload_n 3, 1) := by decide +kernel
theorem d6_16 : decode method_4_code 16 = .ok (.invokestatic 7, 3) := by decide +kernel
theorem d6_19 : decode method_4_code 19 = .ok (.new 13, 3) := by decide +kernel
theorem d6_22 : decode method_4_code 22 = .ok (.dup, 1) := by decide +kernel
theorem d6_23 : decode method_4_code 23 = .ok (.aload 4, 2) := by decide +kernel
theorem d6_25 : decode method_4_code 25 = .ok (.invokespecial 15, 3) := by decide +kernel
theorem d6_28 : decode method_4_code 28 = .ok (.areturn, 1) := by decide +kernel
theorem d6_29 : decode method_4_code 29 = .ok (.iload_n 0, 1) := by decide +kernel
theorem d6_30 : decode method_4_code 30 = .ok (.iconst 1, 1) := by decide +kernel
theorem d6_31 : decode method_4_code 31 = .ok (.if_icmp .ne 65, 3) := by decide +kernel
theorem d6_34 : decode method_4_code 34 = .ok (.bipush 58, 2) := by decide +kernel
theorem d6_36 : decode method_4_code 36 = .ok (.newarray .char, 2) := by decide +kernel
theorem d6_38 : decode method_4_code 38 = .ok (.astore 4, 2) := by decide +kernel
theorem d6_40 : decode method_4_code 40 = .ok (.aload 4, 2) := by decide +kernel
theorem d6_42 : decode method_4_code 42 = .ok (.iconst 0, 1) := by decide +kernel
theorem d6_43 : decode method_4_code 43 = .ok (.bipush 110, 2) := by decide +kernel
theorem d6_45 : decode method_4_code 45 = .ok (.castore, 1) := by decide +kernel
theorem d6_46 : decode method_4_code 46 = .ok (.aload 4, 2) := by decide +kernel
theorem d6_48 : decode method_4_code 48 = .ok (.iconst 1, 1) := by decide +kernel
theorem d6_49 : decode method_4_code 49 = .ok (.bipush 111, 2) := by decide +kernel
theorem d6_51 : decode method_4_code 51 = .ok (.castore, 1) := by decide +kernel
theorem d6_52 : decode method_4_code 52 = .ok (.aload 4, 2) := by decide +kernel
theorem d6_54 : decode method_4_code 54 = .ok (.iconst 2, 1) := by decide +kernel
theorem d6_55 : decode method_4_code 55 = .ok (.bipush 116, 2) := by decide +kernel
theorem d6_57 : decode method_4_code 57 = .ok (.castore, 1) := by decide +kernel
theorem d6_58 : decode method_4_code 58 = .ok (.aload 4, 2) := by decide +kernel
theorem d6_60 : decode method_4_code 60 = .ok (.iconst 3, 1) := by decide +kernel
theorem d6_61 : decode method_4_code 61 = .ok (.bipush 32, 2) := by decide +kernel
theorem d6_63 : decode method_4_code 63 = .ok (.castore, 1) := by decide +kernel
theorem d6_64 : decode method_4_code 64 = .ok (.aload 4, 2) := by decide +kernel
theorem d6_66 : decode method_4_code 66 = .ok (.iconst 4, 1) := by decide +kernel
theorem d6_67 : decode method_4_code 67 = .ok (.bipush 40, 2) := by decide +kernel
theorem d6_69 : decode method_4_code 69 = .ok (.castore, 1) := by decide +kernel
theorem d6_70 : decode method_4_code 70 = .ok (.aload 4, 2) := by decide +kernel
theorem d6_72 : decode method_4_code 72 = .ok (.iconst 5, 1) := by decide +kernel
theorem d6_73 : decode method_4_code 73 = .ok (.iload_n 1, 1) := by decide +kernel
theorem d6_74 : decode method_4_code 74 = .ok (.iload_n 2, 1) := by decide +kernel
theorem d6_75 : decode method_4_code 75 = .ok (.iload_n 3, 1) := by decide +kernel
theorem d6_76 : decode method_4_code 76 = .ok (.invokestatic 7, 3) := by decide +kernel
theorem d6_79 : decode method_4_code 79 = .ok (.aload 4, 2) := by decide +kernel
theorem d6_81 : decode method_4_code 81 = .ok (.bipush 57, 2) := by decide +kernel
theorem d6_83 : decode method_4_code 83 = .ok (.bipush 41, 2) := by decide +kernel
theorem d6_85 : decode method_4_code 85 = .ok (.castore, 1) := by decide +kernel
theorem d6_86 : decode method_4_code 86 = .ok (.new 13, 3) := by decide +kernel
theorem d6_89 : decode method_4_code 89 = .ok (.dup, 1) := by decide +kernel
theorem d6_90 : decode method_4_code 90 = .ok (.aload 4, 2) := by decide +kernel
theorem d6_92 : decode method_4_code 92 = .ok (.invokespecial 15, 3) := by decide +kernel
theorem d6_95 : decode method_4_code 95 = .ok (.areturn, 1) := by decide +kernel
theorem d6_96 : decode method_4_code 96 = .ok (.iload_n 0, 1) := by decide +kernel
theorem d6_97 : decode method_4_code 97 = .ok (.iconst 2, 1) := by decide +kernel
theorem d6_98 : decode method_4_code 98 = .ok (.if_icmp .eq 8, 3) := by decide +kernel
theorem d6_101 : decode method_4_code 101 = .ok (.iload_n 0, 1) := by decide +kernel
theorem d6_102 : decode method_4_code 102 = .ok (.iconst 3, 1) := by decide +kernel
theorem d6_103 : decode method_4_code 103 = .ok (.if_icmp .ne 8, 3) := by decide +kernel
theorem d6_106 : decode method_4_code 106 = .ok (.bipush 62, 2) := by decide +kernel
theorem d6_108 : decode method_4_code 108 = .ok (.goto 5, 3) := by decide +kernel
theorem d6_111 : decode method_4_code 111 = .ok (.bipush 60, 2) := by decide +kernel
theorem d6_113 : decode method_4_code 113 = .ok (.istore 4, 2) := by decide +kernel
theorem d6_115 : decode method_4_code 115 = .ok (.iload_n 0, 1) := by decide +kernel
theorem d6_116 : decode method_4_code 116 = .ok (.iconst 2, 1) := by decide +kernel
theorem d6_117 : decode method_4_code 117 = .ok (.if_icmp .eq 8, 3) := by decide +kernel
theorem d6_120 : decode method_4_code 120 = .ok (.iload_n 0, 1) := by decide +kernel
theorem d6_121 : decode method_4_code 121 = .ok (.iconst 4, 1) := by decide +kernel
theorem d6_122 : decode method_4_code 122 = .ok (.if_icmp .ne 108, 3) := by decide +kernel
theorem d6_125 : decode method_4_code 125 = .ok (.bipush 68, 2) := by decide +kernel
theorem d6_127 : decode method_4_code 127 = .ok (.newarray .char, 2) := by decide +kernel
theorem d6_129 : decode method_4_code 129 = .ok (.astore 5, 2) := by decide +kernel
theorem d6_131 : decode method_4_code 131 = .ok (.aload 5, 2) := by decide +kernel
theorem d6_133 : decode method_4_code 133 = .ok (.iload_n 1, 1) := by decide +kernel
theorem d6_134 : decode method_4_code 134 = .ok (.iload_n 2, 1) := by decide +kernel
theorem d6_135 : decode method_4_code 135 = .ok (.iload 4, 2) := by decide +kernel
theorem d6_137 : decode method_4_code 137 = .ok (.invokestatic 18, 3) := by decide +kernel
theorem d6_140 : decode method_4_code 140 = .ok (.aload 5, 2) := by decide +kernel
theorem d6_142 : decode method_4_code 142 = .ok (.bipush 6, 2) := by decide +kernel
theorem d6_144 : decode method_4_code 144 = .ok (.bipush 97, 2) := by decide +kernel
theorem d6_146 : decode method_4_code 146 = .ok (.castore, 1) := by decide +kernel
theorem d6_147 : decode method_4_code 147 = .ok (.aload 5, 2) := by decide +kernel
theorem d6_149 : decode method_4_code 149 = .ok (.bipush 7, 2) := by decide +kernel
theorem d6_151 : decode method_4_code 151 = .ok (.bipush 110, 2) := by decide +kernel
theorem d6_153 : decode method_4_code 153 = .ok (.castore, 1) := by decide +kernel
theorem d6_154 : decode method_4_code 154 = .ok (.aload 5, 2) := by decide +kernel
theorem d6_156 : decode method_4_code 156 = .ok (.bipush 8, 2) := by decide +kernel
theorem d6_158 : decode method_4_code 158 = .ok (.bipush 100, 2) := by decide +kernel
theorem d6_160 : decode method_4_code 160 = .ok (.castore, 1) := by decide +kernel
theorem d6_161 : decode method_4_code 161 = .ok (.aload 5, 2) := by decide +kernel
theorem d6_163 : decode method_4_code 163 = .ok (.bipush 9, 2) := by decide +kernel
theorem d6_165 : decode method_4_code 165 = .ok (.bipush 32, 2) := by decide +kernel
theorem d6_167 : decode method_4_code 167 = .ok (.castore, 1) := by decide +kernel
theorem d6_168 : decode method_4_code 168 = .ok (.aload 5, 2) := by decide +kernel
theorem d6_170 : decode method_4_code 170 = .ok (.bipush 10, 2) := by decide +kernel
theorem d6_172 : decode method_4_code 172 = .ok (.bipush 110, 2) := by decide +kernel
theorem d6_174 : decode method_4_code 174 = .ok (.castore, 1) := by decide +kernel
theorem d6_175 : decode method_4_code 175 = .ok (.aload 5, 2) := by decide +kernel
theorem d6_177 : decode method_4_code 177 = .ok (.bipush 11, 2) := by decide +kernel
theorem d6_179 : decode method_4_code 179 = .ok (.bipush 111, 2) := by decide +kernel
theorem d6_181 : decode method_4_code 181 = .ok (.castore, 1) := by decide +kernel
theorem d6_182 : decode method_4_code 182 = .ok (.aload 5, 2) := by decide +kernel
theorem d6_184 : decode method_4_code 184 = .ok (.bipush 12, 2) := by decide +kernel
theorem d6_186 : decode method_4_code 186 = .ok (.bipush 116, 2) := by decide +kernel
theorem d6_188 : decode method_4_code 188 = .ok (.castore, 1) := by decide +kernel
theorem d6_189 : decode method_4_code 189 = .ok (.aload 5, 2) := by decide +kernel
theorem d6_191 : decode method_4_code 191 = .ok (.bipush 13, 2) := by decide +kernel
theorem d6_193 : decode method_4_code 193 = .ok (.bipush 32, 2) := by decide +kernel
theorem d6_195 : decode method_4_code 195 = .ok (.castore, 1) := by decide +kernel
theorem d6_196 : decode method_4_code 196 = .ok (.aload 5, 2) := by decide +kernel
theorem d6_198 : decode method_4_code 198 = .ok (.bipush 14, 2) := by decide +kernel
theorem d6_200 : decode method_4_code 200 = .ok (.bipush 40, 2) := by decide +kernel
theorem d6_202 : decode method_4_code 202 = .ok (.castore, 1) := by decide +kernel
theorem d6_203 : decode method_4_code 203 = .ok (.aload 5, 2) := by decide +kernel
theorem d6_205 : decode method_4_code 205 = .ok (.bipush 15, 2) := by decide +kernel
theorem d6_207 : decode method_4_code 207 = .ok (.iload_n 1, 1) := by decide +kernel
theorem d6_208 : decode method_4_code 208 = .ok (.iload_n 2, 1) := by decide +kernel
theorem d6_209 : decode method_4_code 209 = .ok (.iload_n 3, 1) := by decide +kernel
theorem d6_210 : decode method_4_code 210 = .ok (.invokestatic 7, 3) := by decide +kernel
theorem d6_213 : decode method_4_code 213 = .ok (.aload 5, 2) := by decide +kernel
theorem d6_215 : decode method_4_code 215 = .ok (.bipush 67, 2) := by decide +kernel
theorem d6_217 : decode method_4_code 217 = .ok (.bipush 41, 2) := by decide +kernel
theorem d6_219 : decode method_4_code 219 = .ok (.castore, 1) := by decide +kernel
theorem d6_220 : decode method_4_code 220 = .ok (.new 13, 3) := by decide +kernel
theorem d6_223 : decode method_4_code 223 = .ok (.dup, 1) := by decide +kernel
theorem d6_224 : decode method_4_code 224 = .ok (.aload 5, 2) := by decide +kernel
theorem d6_226 : decode method_4_code 226 = .ok (.invokespecial 15, 3) := by decide +kernel
theorem d6_229 : decode method_4_code 229 = .ok (.areturn, 1) := by decide +kernel
theorem d6_230 : decode method_4_code 230 = .ok (.bipush 61, 2) := by decide +kernel
theorem d6_232 : decode method_4_code 232 = .ok (.newarray .char, 2) := by decide +kernel
theorem d6_234 : decode method_4_code 234 = .ok (.astore 5, 2) := by decide +kernel
theorem d6_236 : decode method_4_code 236 = .ok (.aload 5, 2) := by decide +kernel
theorem d6_238 : decode method_4_code 238 = .ok (.iload_n 1, 1) := by decide +kernel
theorem d6_239 : decode method_4_code 239 = .ok (.iload_n 2, 1) := by decide +kernel
theorem d6_240 : decode method_4_code 240 = .ok (.iload 4, 2) := by decide +kernel
theorem d6_242 : decode method_4_code 242 = .ok (.invokestatic 18, 3) := by decide +kernel
theorem d6_245 : decode method_4_code 245 = .ok (.aload 5, 2) := by decide +kernel
theorem d6_247 : decode method_4_code 247 = .ok (.bipush 6, 2) := by decide +kernel
theorem d6_249 : decode method_4_code 249 = .ok (.bipush 111, 2) := by decide +kernel
theorem d6_251 : decode method_4_code 251 = .ok (.castore, 1) := by decide +kernel
theorem d6_252 : decode method_4_code 252 = .ok (.aload 5, 2) := by decide +kernel
theorem d6_254 : decode method_4_code 254 = .ok (.bipush 7, 2) := by decide +kernel
theorem d6_256 : decode method_4_code 256 = .ok (.bipush 114, 2) := by decide +kernel
theorem d6_258 : decode method_4_code 258 = .ok (.castore, 1) := by decide +kernel
theorem d6_259 : decode method_4_code 259 = .ok (.aload 5, 2) := by decide +kernel
theorem d6_261 : decode method_4_code 261 = .ok (.bipush 8, 2) := by decide +kernel
theorem d6_263 : decode method_4_code 263 = .ok (.bipush 32, 2) := by decide +kernel
theorem d6_265 : decode method_4_code 265 = .ok (.castore, 1) := by decide +kernel
theorem d6_266 : decode method_4_code 266 = .ok (.aload 5, 2) := by decide +kernel
theorem d6_268 : decode method_4_code 268 = .ok (.bipush 9, 2) := by decide +kernel
theorem d6_270 : decode method_4_code 270 = .ok (.iload_n 1, 1) := by decide +kernel
theorem d6_271 : decode method_4_code 271 = .ok (.iload_n 2, 1) := by decide +kernel
theorem d6_272 : decode method_4_code 272 = .ok (.iload_n 3, 1) := by decide +kernel
theorem d6_273 : decode method_4_code 273 = .ok (.invokestatic 7, 3) := by decide +kernel
theorem d6_276 : decode method_4_code 276 = .ok (.new 13, 3) := by decide +kernel
theorem d6_279 : decode method_4_code 279 = .ok (.dup, 1) := by decide +kernel
theorem d6_280 : decode method_4_code 280 = .ok (.aload 5, 2) := by decide +kernel
theorem d6_282 : decode method_4_code 282 = .ok (.invokespecial 15, 3) := by decide +kernel
theorem d6_285 : decode method_4_code 285 = .ok (.areturn, 1) := by decide +kernel
theorem d7_0 : decode method_2_code 0 = .ok (.aload_n 0, 1) := by decide +kernel
theorem d7_1 : decode method_2_code 1 = .ok (.iload_n 1, 1) := by decide +kernel
theorem d7_2 : decode method_2_code 2 = .ok (.bipush 97, 2) := by decide +kernel
theorem d7_4 : decode method_2_code 4 = .ok (.castore, 1) := by decide +kernel
theorem d7_5 : decode method_2_code 5 = .ok (.aload_n 0, 1) := by decide +kernel
theorem d7_6 : decode method_2_code 6 = .ok (.iload_n 1, 1) := by decide +kernel
theorem d7_7 : decode method_2_code 7 = .ok (.iconst 1, 1) := by decide +kernel
theorem d7_8 : decode method_2_code 8 = .ok (.iadd, 1) := by decide +kernel
theorem d7_9 : decode method_2_code 9 = .ok (.bipush 98, 2) := by decide +kernel
theorem d7_11 : decode method_2_code 11 = .ok (.castore, 1) := by decide +kernel
theorem d7_12 : decode method_2_code 12 = .ok (.aload_n 0, 1) := by decide +kernel
theorem d7_13 : decode method_2_code 13 = .ok (.iload_n 1, 1) := by decide +kernel
theorem d7_14 : decode method_2_code 14 = .ok (.iconst 2, 1) := by decide +kernel
theorem d7_15 : decode method_2_code 15 = .ok (.iadd, 1) := by decide +kernel
theorem d7_16 : decode method_2_code 16 = .ok (.bipush 115, 2) := by decide +kernel
theorem d7_18 : decode method_2_code 18 = .ok (.castore, 1) := by decide +kernel
theorem d7_19 : decode method_2_code 19 = .ok (.aload_n 0, 1) := by decide +kernel
theorem d7_20 : decode method_2_code 20 = .ok (.iload_n 1, 1) := by decide +kernel
theorem d7_21 : decode method_2_code 21 = .ok (.iconst 3, 1) := by decide +kernel
theorem d7_22 : decode method_2_code 22 = .ok (.iadd, 1) := by decide +kernel
theorem d7_23 : decode method_2_code 23 = .ok (.bipush 40, 2) := by decide +kernel
theorem d7_25 : decode method_2_code 25 = .ok (.castore, 1) := by decide +kernel
theorem d7_26 : decode method_2_code 26 = .ok (.aload_n 0, 1) := by decide +kernel
theorem d7_27 : decode method_2_code 27 = .ok (.iload_n 1, 1) := by decide +kernel
theorem d7_28 : decode method_2_code 28 = .ok (.iconst 4, 1) := by decide +kernel
theorem d7_29 : decode method_2_code 29 = .ok (.iadd, 1) := by decide +kernel
theorem d7_30 : decode method_2_code 30 = .ok (.iload_n 2, 1) := by decide +kernel
theorem d7_31 : decode method_2_code 31 = .ok (.castore, 1) := by decide +kernel
theorem d7_32 : decode method_2_code 32 = .ok (.aload_n 0, 1) := by decide +kernel
theorem d7_33 : decode method_2_code 33 = .ok (.iload_n 1, 1) := by decide +kernel
theorem d7_34 : decode method_2_code 34 = .ok (.iconst 5, 1) := by decide +kernel
theorem d7_35 : decode method_2_code 35 = .ok (.iadd, 1) := by decide +kernel
theorem d7_36 : decode method_2_code 36 = .ok (.bipush 32, 2) := by decide +kernel
theorem d7_38 : decode method_2_code 38 = .ok (.castore, 1) := by decide +kernel
theorem d7_39 : decode method_2_code 39 = .ok (.aload_n 0, 1) := by decide +kernel
theorem d7_40 : decode method_2_code 40 = .ok (.iload_n 1, 1) := by decide +kernel
theorem d7_41 : decode method_2_code 41 = .ok (.bipush 6, 2) := by decide +kernel
theorem d7_43 : decode method_2_code 43 = .ok (.iadd, 1) := by decide +kernel
theorem d7_44 : decode method_2_code 44 = .ok (.bipush 45, 2) := by decide +kernel
theorem d7_46 : decode method_2_code 46 = .ok (.castore, 1) := by decide +kernel
theorem d7_47 : decode method_2_code 47 = .ok (.aload_n 0, 1) := by decide +kernel
theorem d7_48 : decode method_2_code 48 = .ok (.iload_n 1, 1) := by decide +kernel
theorem d7_49 : decode method_2_code 49 = .ok (.bipush 7, 2) := by decide +kernel
theorem d7_51 : decode method_2_code 51 = .ok (.iadd, 1) := by decide +kernel
theorem d7_52 : decode method_2_code 52 = .ok (.bipush 32, 2) := by decide +kernel
theorem d7_54 : decode method_2_code 54 = .ok (.castore, 1) := by decide +kernel
theorem d7_55 : decode method_2_code 55 = .ok (.aload_n 0, 1) := by decide +kernel
theorem d7_56 : decode method_2_code 56 = .ok (.iload_n 1, 1) := by decide +kernel
theorem d7_57 : decode method_2_code 57 = .ok (.bipush 8, 2) := by decide +kernel
theorem d7_59 : decode method_2_code 59 = .ok (.iadd, 1) := by decide +kernel
theorem d7_60 : decode method_2_code 60 = .ok (.iload_n 3, 1) := by decide +kernel
theorem d7_61 : decode method_2_code 61 = .ok (.castore, 1) := by decide +kernel
theorem d7_62 : decode method_2_code 62 = .ok (.aload_n 0, 1) := by decide +kernel
theorem d7_63 : decode method_2_code 63 = .ok (.iload_n 1, 1) := by decide +kernel
theorem d7_64 : decode method_2_code 64 = .ok (.bipush 9, 2) := by decide +kernel
theorem d7_66 : decode method_2_code 66 = .ok (.iadd, 1) := by decide +kernel
theorem d7_67 : decode method_2_code 67 = .ok (.bipush 41, 2) := by decide +kernel
theorem d7_69 : decode method_2_code 69 = .ok (.castore, 1) := by decide +kernel
theorem d7_70 : decode method_2_code 70 = .ok (.aload_n 0, 1) := by decide +kernel
theorem d7_71 : decode method_2_code 71 = .ok (.iload_n 1, 1) := by decide +kernel
theorem d7_72 : decode method_2_code 72 = .ok (.bipush 10, 2) := by decide +kernel
theorem d7_74 : decode method_2_code 74 = .ok (.iadd, 1) := by decide +kernel
theorem d7_75 : decode method_2_code 75 = .ok (.bipush 32, 2) := by decide +kernel
theorem d7_77 : decode method_2_code 77 = .ok (.castore, 1) := by decide +kernel
theorem d7_78 : decode method_2_code 78 = .ok (.aload_n 0, 1) := by decide +kernel
theorem d7_79 : decode method_2_code 79 = .ok (.iload_n 1, 1) := by decide +kernel
theorem d7_80 : decode method_2_code 80 = .ok (.bipush 11, 2) := by decide +kernel
theorem d7_82 : decode method_2_code 82 = .ok (.iadd, 1) := by decide +kernel
theorem d7_83 : decode method_2_code 83 = .ok (.bipush 60, 2) := by decide +kernel
theorem d7_85 : decode method_2_code 85 = .ok (.castore, 1) := by decide +kernel
theorem d7_86 : decode method_2_code 86 = .ok (.aload_n 0, 1) := by decide +kernel
theorem d7_87 : decode method_2_code 87 = .ok (.iload_n 1, 1) := by decide +kernel
theorem d7_88 : decode method_2_code 88 = .ok (.bipush 12, 2) := by decide +kernel
theorem d7_90 : decode method_2_code 90 = .ok (.iadd, 1) := by decide +kernel
theorem d7_91 : decode method_2_code 91 = .ok (.bipush 61, 2) := by decide +kernel
theorem d7_93 : decode method_2_code 93 = .ok (.castore, 1) := by decide +kernel
theorem d7_94 : decode method_2_code 94 = .ok (.aload_n 0, 1) := by decide +kernel
theorem d7_95 : decode method_2_code 95 = .ok (.iload_n 1, 1) := by decide +kernel
theorem d7_96 : decode method_2_code 96 = .ok (.bipush 13, 2) := by decide +kernel
theorem d7_98 : decode method_2_code 98 = .ok (.iadd, 1) := by decide +kernel
theorem d7_99 : decode method_2_code 99 = .ok (.bipush 32, 2) := by decide +kernel
theorem d7_101 : decode method_2_code 101 = .ok (.castore, 1) := by decide +kernel
theorem d7_102 : decode method_2_code 102 = .ok (.aload_n 0, 1) := by decide +kernel
theorem d7_103 : decode method_2_code 103 = .ok (.iload_n 1, 1) := by decide +kernel
theorem d7_104 : decode method_2_code 104 = .ok (.bipush 14, 2) := by decide +kernel
theorem d7_106 : decode method_2_code 106 = .ok (.iadd, 1) := by decide +kernel
theorem d7_107 : decode method_2_code 107 = .ok (.iload 4, 2) := by decide +kernel
theorem d7_109 : decode method_2_code 109 = .ok (.castore, 1) := by decide +kernel
theorem d7_110 : decode method_2_code 110 = .ok (.aload_n 0, 1) := by decide +kernel
theorem d7_111 : decode method_2_code 111 = .ok (.iload_n 1, 1) := by decide +kernel
theorem d7_112 : decode method_2_code 112 = .ok (.bipush 15, 2) := by decide +kernel
theorem d7_114 : decode method_2_code 114 = .ok (.iadd, 1) := by decide +kernel
theorem d7_115 : decode method_2_code 115 = .ok (.bipush 32, 2) := by decide +kernel
theorem d7_117 : decode method_2_code 117 = .ok (.castore, 1) := by decide +kernel
theorem d7_118 : decode method_2_code 118 = .ok (.aload_n 0, 1) := by decide +kernel
theorem d7_119 : decode method_2_code 119 = .ok (.iload_n 1, 1) := by decide +kernel
theorem d7_120 : decode method_2_code 120 = .ok (.bipush 16, 2) := by decide +kernel
theorem d7_122 : decode method_2_code 122 = .ok (.iadd, 1) := by decide +kernel
theorem d7_123 : decode method_2_code 123 = .ok (.bipush 42, 2) := by decide +kernel
theorem d7_125 : decode method_2_code 125 = .ok (.castore, 1) := by decide +kernel
theorem d7_126 : decode method_2_code 126 = .ok (.aload_n 0, 1) := by decide +kernel
theorem d7_127 : decode method_2_code 127 = .ok (.iload_n 1, 1) := by decide +kernel
theorem d7_128 : decode method_2_code 128 = .ok (.bipush 17, 2) := by decide +kernel
theorem d7_130 : decode method_2_code 130 = .ok (.iadd, 1) := by decide +kernel
theorem d7_131 : decode method_2_code 131 = .ok (.bipush 32, 2) := by decide +kernel
theorem d7_133 : decode method_2_code 133 = .ok (.castore, 1) := by decide +kernel
theorem d7_134 : decode method_2_code 134 = .ok (.aload_n 0, 1) := by decide +kernel
theorem d7_135 : decode method_2_code 135 = .ok (.iload_n 1, 1) := by decide +kernel
theorem d7_136 : decode method_2_code 136 = .ok (.bipush 18, 2) := by decide +kernel
theorem d7_138 : decode method_2_code 138 = .ok (.iadd, 1) := by decide +kernel
theorem d7_139 : decode method_2_code 139 = .ok (.bipush 97, 2) := by decide +kernel
theorem d7_141 : decode method_2_code 141 = .ok (.castore, 1) := by decide +kernel
theorem d7_142 : decode method_2_code 142 = .ok (.aload_n 0, 1) := by decide +kernel
theorem d7_143 : decode method_2_code 143 = .ok (.iload_n 1, 1) := by decide +kernel
theorem d7_144 : decode method_2_code 144 = .ok (.bipush 19, 2) := by decide +kernel
theorem d7_146 : decode method_2_code 146 = .ok (.iadd, 1) := by decide +kernel
theorem d7_147 : decode method_2_code 147 = .ok (.bipush 98, 2) := by decide +kernel
theorem d7_149 : decode method_2_code 149 = .ok (.castore, 1) := by decide +kernel
theorem d7_150 : decode method_2_code 150 = .ok (.aload_n 0, 1) := by decide +kernel
theorem d7_151 : decode method_2_code 151 = .ok (.iload_n 1, 1) := by decide +kernel
theorem d7_152 : decode method_2_code 152 = .ok (.bipush 20, 2) := by decide +kernel
theorem d7_154 : decode method_2_code 154 = .ok (.iadd, 1) := by decide +kernel
theorem d7_155 : decode method_2_code 155 = .ok (.bipush 115, 2) := by decide +kernel
theorem d7_157 : decode method_2_code 157 = .ok (.castore, 1) := by decide +kernel
theorem d7_158 : decode method_2_code 158 = .ok (.aload_n 0, 1) := by decide +kernel
theorem d7_159 : decode method_2_code 159 = .ok (.iload_n 1, 1) := by decide +kernel
theorem d7_160 : decode method_2_code 160 = .ok (.bipush 21, 2) := by decide +kernel
theorem d7_162 : decode method_2_code 162 = .ok (.iadd, 1) := by decide +kernel
theorem d7_163 : decode method_2_code 163 = .ok (.bipush 40, 2) := by decide +kernel
theorem d7_165 : decode method_2_code 165 = .ok (.castore, 1) := by decide +kernel
theorem d7_166 : decode method_2_code 166 = .ok (.aload_n 0, 1) := by decide +kernel
theorem d7_167 : decode method_2_code 167 = .ok (.iload_n 1, 1) := by decide +kernel
theorem d7_168 : decode method_2_code 168 = .ok (.bipush 22, 2) := by decide +kernel
theorem d7_170 : decode method_2_code 170 = .ok (.iadd, 1) := by decide +kernel
theorem d7_171 : decode method_2_code 171 = .ok (.iload_n 2, 1) := by decide +kernel
theorem d7_172 : decode method_2_code 172 = .ok (.castore, 1) := by decide +kernel
theorem d7_173 : decode method_2_code 173 = .ok (.aload_n 0, 1) := by decide +kernel
theorem d7_174 : decode method_2_code 174 = .ok (.iload_n 1, 1) := by decide +kernel
theorem d7_175 : decode method_2_code 175 = .ok (.bipush 23, 2) := by decide +kernel
theorem d7_177 : decode method_2_code 177 = .ok (.iadd, 1) := by decide +kernel
theorem d7_178 : decode method_2_code 178 = .ok (.bipush 41, 2) := by decide +kernel
theorem d7_180 : decode method_2_code 180 = .ok (.castore, 1) := by decide +kernel
theorem d7_181 : decode method_2_code 181 = .ok (.aload_n 0, 1) := by decide +kernel
theorem d7_182 : decode method_2_code 182 = .ok (.iload_n 1, 1) := by decide +kernel
theorem d7_183 : decode method_2_code 183 = .ok (.bipush 24, 2) := by decide +kernel
theorem d7_185 : decode method_2_code 185 = .ok (.iadd, 1) := by decide +kernel
theorem d7_186 : decode method_2_code 186 = .ok (.bipush 32, 2) := by decide +kernel
theorem d7_188 : decode method_2_code 188 = .ok (.castore, 1) := by decide +kernel
theorem d7_189 : decode method_2_code 189 = .ok (.aload_n 0, 1) := by decide +kernel
theorem d7_190 : decode method_2_code 190 = .ok (.iload_n 1, 1) := by decide +kernel
theorem d7_191 : decode method_2_code 191 = .ok (.bipush 25, 2) := by decide +kernel
theorem d7_193 : decode method_2_code 193 = .ok (.iadd, 1) := by decide +kernel
theorem d7_194 : decode method_2_code 194 = .ok (.bipush 111, 2) := by decide +kernel
theorem d7_196 : decode method_2_code 196 = .ok (.castore, 1) := by decide +kernel
theorem d7_197 : decode method_2_code 197 = .ok (.aload_n 0, 1) := by decide +kernel
theorem d7_198 : decode method_2_code 198 = .ok (.iload_n 1, 1) := by decide +kernel
theorem d7_199 : decode method_2_code 199 = .ok (.bipush 26, 2) := by decide +kernel
theorem d7_201 : decode method_2_code 201 = .ok (.iadd, 1) := by decide +kernel
theorem d7_202 : decode method_2_code 202 = .ok (.bipush 114, 2) := by decide +kernel
theorem d7_204 : decode method_2_code 204 = .ok (.castore, 1) := by decide +kernel
theorem d7_205 : decode method_2_code 205 = .ok (.aload_n 0, 1) := by decide +kernel
theorem d7_206 : decode method_2_code 206 = .ok (.iload_n 1, 1) := by decide +kernel
theorem d7_207 : decode method_2_code 207 = .ok (.bipush 27, 2) := by decide +kernel
theorem d7_209 : decode method_2_code 209 = .ok (.iadd, 1) := by decide +kernel
theorem d7_210 : decode method_2_code 210 = .ok (.bipush 32, 2) := by decide +kernel
theorem d7_212 : decode method_2_code 212 = .ok (.castore, 1) := by decide +kernel
theorem d7_213 : decode method_2_code 213 = .ok (.aload_n 0, 1) := by decide +kernel
theorem d7_214 : decode method_2_code 214 = .ok (.iload_n 1, 1) := by decide +kernel
theorem d7_215 : decode method_2_code 215 = .ok (.bipush 28, 2) := by decide +kernel
theorem d7_217 : decode method_2_code 217 = .ok (.iadd, 1) := by decide +kernel
theorem d7_218 : decode method_2_code 218 = .ok (.bipush 97, 2) := by decide +kernel
theorem d7_220 : decode method_2_code 220 = .ok (.castore, 1) := by decide +kernel
theorem d7_221 : decode method_2_code 221 = .ok (.aload_n 0, 1) := by decide +kernel
theorem d7_222 : decode method_2_code 222 = .ok (.iload_n 1, 1) := by decide +kernel
theorem d7_223 : decode method_2_code 223 = .ok (.bipush 29, 2) := by decide +kernel
theorem d7_225 : decode method_2_code 225 = .ok (.iadd, 1) := by decide +kernel
theorem d7_226 : decode method_2_code 226 = .ok (.bipush 98, 2) := by decide +kernel
theorem d7_228 : decode method_2_code 228 = .ok (.castore, 1) := by decide +kernel
theorem d7_229 : decode method_2_code 229 = .ok (.aload_n 0, 1) := by decide +kernel
theorem d7_230 : decode method_2_code 230 = .ok (.iload_n 1, 1) := by decide +kernel
theorem d7_231 : decode method_2_code 231 = .ok (.bipush 30, 2) := by decide +kernel
theorem d7_233 : decode method_2_code 233 = .ok (.iadd, 1) := by decide +kernel
theorem d7_234 : decode method_2_code 234 = .ok (.bipush 115, 2) := by decide +kernel
theorem d7_236 : decode method_2_code 236 = .ok (.castore, 1) := by decide +kernel
theorem d7_237 : decode method_2_code 237 = .ok (.aload_n 0, 1) := by decide +kernel
theorem d7_238 : decode method_2_code 238 = .ok (.iload_n 1, 1) := by decide +kernel
theorem d7_239 : decode method_2_code 239 = .ok (.bipush 31, 2) := by decide +kernel
theorem d7_241 : decode method_2_code 241 = .ok (.iadd, 1) := by decide +kernel
theorem d7_242 : decode method_2_code 242 = .ok (.bipush 40, 2) := by decide +kernel
theorem d7_244 : decode method_2_code 244 = .ok (.castore, 1) := by decide +kernel
theorem d7_245 : decode method_2_code 245 = .ok (.aload_n 0, 1) := by decide +kernel
theorem d7_246 : decode method_2_code 246 = .ok (.iload_n 1, 1) := by decide +kernel
theorem d7_247 : decode method_2_code 247 = .ok (.bipush 32, 2) := by decide +kernel
theorem d7_249 : decode method_2_code 249 = .ok (.iadd, 1) := by decide +kernel
theorem d7_250 : decode method_2_code 250 = .ok (.iload_n 2, 1) := by decide +kernel
theorem d7_251 : decode method_2_code 251 = .ok (.castore, 1) := by decide +kernel
theorem d7_252 : decode method_2_code 252 = .ok (.aload_n 0, 1) := by decide +kernel
theorem d7_253 : decode method_2_code 253 = .ok (.iload_n 1, 1) := by decide +kernel
theorem d7_254 : decode method_2_code 254 = .ok (.bipush 33, 2) := by decide +kernel
theorem d7_256 : decode method_2_code 256 = .ok (.iadd, 1) := by decide +kernel
theorem d7_257 : decode method_2_code 257 = .ok (.bipush 32, 2) := by decide +kernel
theorem d7_259 : decode method_2_code 259 = .ok (.castore, 1) := by decide +kernel
theorem d7_260 : decode method_2_code 260 = .ok (.aload_n 0, 1) := by decide +kernel
theorem d7_261 : decode method_2_code 261 = .ok (.iload_n 1, 1) := by decide +kernel
theorem d7_262 : decode method_2_code 262 = .ok (.bipush 34, 2) := by decide +kernel
theorem d7_264 : decode method_2_code 264 = .ok (.iadd, 1) := by decide +kernel
theorem d7_265 : decode method_2_code 265 = .ok (.bipush 45, 2) := by decide +kernel
theorem d7_267 : decode method_2_code 267 = .ok (.castore, 1) := by decide +kernel
theorem d7_268 : decode method_2_code 268 = .ok (.aload_n 0, 1) := by decide +kernel
theorem d7_269 : decode method_2_code 269 = .ok (.iload_n 1, 1) := by decide +kernel
theorem d7_270 : decode method_2_code 270 = .ok (.bipush 35, 2) := by decide +kernel
theorem d7_272 : decode method_2_code 272 = .ok (.iadd, 1) := by decide +kernel
theorem d7_273 : decode method_2_code 273 = .ok (.bipush 32, 2) := by decide +kernel
theorem d7_275 : decode method_2_code 275 = .ok (.castore, 1) := by decide +kernel
theorem d7_276 : decode method_2_code 276 = .ok (.aload_n 0, 1) := by decide +kernel
theorem d7_277 : decode method_2_code 277 = .ok (.iload_n 1, 1) := by decide +kernel
theorem d7_278 : decode method_2_code 278 = .ok (.bipush 36, 2) := by decide +kernel
theorem d7_280 : decode method_2_code 280 = .ok (.iadd, 1) := by decide +kernel
theorem d7_281 : decode method_2_code 281 = .ok (.iload_n 3, 1) := by decide +kernel
theorem d7_282 : decode method_2_code 282 = .ok (.castore, 1) := by decide +kernel
theorem d7_283 : decode method_2_code 283 = .ok (.aload_n 0, 1) := by decide +kernel
theorem d7_284 : decode method_2_code 284 = .ok (.iload_n 1, 1) := by decide +kernel
theorem d7_285 : decode method_2_code 285 = .ok (.bipush 37, 2) := by decide +kernel
theorem d7_287 : decode method_2_code 287 = .ok (.iadd, 1) := by decide +kernel
theorem d7_288 : decode method_2_code 288 = .ok (.bipush 41, 2) := by decide +kernel
theorem d7_290 : decode method_2_code 290 = .ok (.castore, 1) := by decide +kernel
theorem d7_291 : decode method_2_code 291 = .ok (.aload_n 0, 1) := by decide +kernel
theorem d7_292 : decode method_2_code 292 = .ok (.iload_n 1, 1) := by decide +kernel
theorem d7_293 : decode method_2_code 293 = .ok (.bipush 38, 2) := by decide +kernel
theorem d7_295 : decode method_2_code 295 = .ok (.iadd, 1) := by decide +kernel
theorem d7_296 : decode method_2_code 296 = .ok (.bipush 32, 2) := by decide +kernel
theorem d7_298 : decode method_2_code 298 = .ok (.castore, 1) := by decide +kernel
theorem d7_299 : decode method_2_code 299 = .ok (.aload_n 0, 1) := by decide +kernel
theorem d7_300 : decode method_2_code 300 = .ok (.iload_n 1, 1) := by decide +kernel
theorem d7_301 : decode method_2_code 301 = .ok (.bipush 39, 2) := by decide +kernel
theorem d7_303 : decode method_2_code 303 = .ok (.iadd, 1) := by decide +kernel
theorem d7_304 : decode method_2_code 304 = .ok (.bipush 60, 2) := by decide +kernel
theorem d7_306 : decode method_2_code 306 = .ok (.castore, 1) := by decide +kernel
theorem d7_307 : decode method_2_code 307 = .ok (.aload_n 0, 1) := by decide +kernel
theorem d7_308 : decode method_2_code 308 = .ok (.iload_n 1, 1) := by decide +kernel
theorem d7_309 : decode method_2_code 309 = .ok (.bipush 40, 2) := by decide +kernel
theorem d7_311 : decode method_2_code 311 = .ok (.iadd, 1) := by decide +kernel
theorem d7_312 : decode method_2_code 312 = .ok (.bipush 61, 2) := by decide +kernel
theorem d7_314 : decode method_2_code 314 = .ok (.castore, 1) := by decide +kernel
theorem d7_315 : decode method_2_code 315 = .ok (.aload_n 0, 1) := by decide +kernel
theorem d7_316 : decode method_2_code 316 = .ok (.iload_n 1, 1) := by decide +kernel
theorem d7_317 : decode method_2_code 317 = .ok (.bipush 41, 2) := by decide +kernel
theorem d7_319 : decode method_2_code 319 = .ok (.iadd, 1) := by decide +kernel
theorem d7_320 : decode method_2_code 320 = .ok (.bipush 32, 2) := by decide +kernel
theorem d7_322 : decode method_2_code 322 = .ok (.castore, 1) := by decide +kernel
theorem d7_323 : decode method_2_code 323 = .ok (.aload_n 0, 1) := by decide +kernel
theorem d7_324 : decode method_2_code 324 = .ok (.iload_n 1, 1) := by decide +kernel
theorem d7_325 : decode method_2_code 325 = .ok (.bipush 42, 2) := by decide +kernel
theorem d7_327 : decode method_2_code 327 = .ok (.iadd, 1) := by decide +kernel
theorem d7_328 : decode method_2_code 328 = .ok (.iload 4, 2) := by decide +kernel
theorem d7_330 : decode method_2_code 330 = .ok (.castore, 1) := by decide +kernel
theorem d7_331 : decode method_2_code 331 = .ok (.aload_n 0, 1) := by decide +kernel
theorem d7_332 : decode method_2_code 332 = .ok (.iload_n 1, 1) := by decide +kernel
theorem d7_333 : decode method_2_code 333 = .ok (.bipush 43, 2) := by decide +kernel
theorem d7_335 : decode method_2_code 335 = .ok (.iadd, 1) := by decide +kernel
theorem d7_336 : decode method_2_code 336 = .ok (.bipush 32, 2) := by decide +kernel
theorem d7_338 : decode method_2_code 338 = .ok (.castore, 1) := by decide +kernel
theorem d7_339 : decode method_2_code 339 = .ok (.aload_n 0, 1) := by decide +kernel
theorem d7_340 : decode method_2_code 340 = .ok (.iload_n 1, 1) := by decide +kernel
theorem d7_341 : decode method_2_code 341 = .ok (.bipush 44, 2) := by decide +kernel
theorem d7_343 : decode method_2_code 343 = .ok (.iadd, 1) := by decide +kernel
theorem d7_344 : decode method_2_code 344 = .ok (.bipush 42, 2) := by decide +kernel
theorem d7_346 : decode method_2_code 346 = .ok (.castore, 1) := by decide +kernel
theorem d7_347 : decode method_2_code 347 = .ok (.aload_n 0, 1) := by decide +kernel
theorem d7_348 : decode method_2_code 348 = .ok (.iload_n 1, 1) := by decide +kernel
theorem d7_349 : decode method_2_code 349 = .ok (.bipush 45, 2) := by decide +kernel
theorem d7_351 : decode method_2_code 351 = .ok (.iadd, 1) := by decide +kernel
theorem d7_352 : decode method_2_code 352 = .ok (.bipush 32, 2) := by decide +kernel
theorem d7_354 : decode method_2_code 354 = .ok (.castore, 1) := by decide +kernel
theorem d7_355 : decode method_2_code 355 = .ok (.aload_n 0, 1) := by decide +kernel
theorem d7_356 : decode method_2_code 356 = .ok (.iload_n 1, 1) := by decide +kernel
theorem d7_357 : decode method_2_code 357 = .ok (.bipush 46, 2) := by decide +kernel
theorem d7_359 : decode method_2_code 359 = .ok (.iadd, 1) := by decide +kernel
theorem d7_360 : decode method_2_code 360 = .ok (.bipush 97, 2) := by decide +kernel
theorem d7_362 : decode method_2_code 362 = .ok (.castore, 1) := by decide +kernel
theorem d7_363 : decode method_2_code 363 = .ok (.aload_n 0, 1) := by decide +kernel
theorem d7_364 : decode method_2_code 364 = .ok (.iload_n 1, 1) := by decide +kernel
theorem d7_365 : decode method_2_code 365 = .ok (.bipush 47, 2) := by decide +kernel
theorem d7_367 : decode method_2_code 367 = .ok (.iadd, 1) := by decide +kernel
theorem d7_368 : decode method_2_code 368 = .ok (.bipush 98, 2) := by decide +kernel
theorem d7_370 : decode method_2_code 370 = .ok (.castore, 1) := by decide +kernel
theorem d7_371 : decode method_2_code 371 = .ok (.aload_n 0, 1) := by decide +kernel
theorem d7_372 : decode method_2_code 372 = .ok (.iload_n 1, 1) := by decide +kernel
theorem d7_373 : decode method_2_code 373 = .ok (.bipush 48, 2) := by decide +kernel
theorem d7_375 : decode method_2_code 375 = .ok (.iadd, 1) := by decide +kernel
theorem d7_376 : decode method_2_code 376 = .ok (.bipush 115, 2) := by decide +kernel
theorem d7_378 : decode method_2_code 378 = .ok (.castore, 1) := by decide +kernel
theorem d7_379 : decode method_2_code 379 = .ok (.aload_n 0, 1) := by decide +kernel
theorem d7_380 : decode method_2_code 380 = .ok (.iload_n 1, 1) := by decide +kernel
theorem d7_381 : decode method_2_code 381 = .ok (.bipush 49, 2) := by decide +kernel
theorem d7_383 : decode method_2_code 383 = .ok (.iadd, 1) := by decide +kernel
theorem d7_384 : decode method_2_code 384 = .ok (.bipush 40, 2) := by decide +kernel
theorem d7_386 : decode method_2_code 386 = .ok (.castore, 1) := by decide +kernel
theorem d7_387 : decode method_2_code 387 = .ok (.aload_n 0, 1) := by decide +kernel
theorem d7_388 : decode method_2_code 388 = .ok (.iload_n 1, 1) := by decide +kernel
theorem d7_389 : decode method_2_code 389 = .ok (.bipush 50, 2) := by decide +kernel
theorem d7_391 : decode method_2_code 391 = .ok (.iadd, 1) := by decide +kernel
theorem d7_392 : decode method_2_code 392 = .ok (.iload_n 3, 1) := by decide +kernel
theorem d7_393 : decode method_2_code 393 = .ok (.castore, 1) := by decide +kernel
theorem d7_394 : decode method_2_code 394 = .ok (.aload_n 0, 1) := by decide +kernel
theorem d7_395 : decode method_2_code 395 = .ok (.iload_n 1, 1) := by decide +kernel
theorem d7_396 : decode method_2_code 396 = .ok (.bipush 51, 2) := by decide +kernel
theorem d7_398 : decode method_2_code 398 = .ok (.iadd, 1) := by decide +kernel
theorem d7_399 : decode method_2_code 399 = .ok (.bipush 41, 2) := by decide +kernel
theorem d7_401 : decode method_2_code 401 = .ok (.castore, 1) := by decide +kernel
theorem d7_402 : decode method_2_code 402 = .ok (.return_, 1) := by decide +kernel
theorem d13_0 : decode method_3_code 0 = .ok (.aload_n 0, 1) := by decide +kernel
theorem d13_1 : decode method_3_code 1 = .ok (.iconst 0, 1) := by decide +kernel
theorem d13_2 : decode method_3_code 2 = .ok (.iload_n 1, 1) := by decide +kernel
theorem d13_3 : decode method_3_code 3 = .ok (.castore, 1) := by decide +kernel
theorem d13_4 : decode method_3_code 4 = .ok (.aload_n 0, 1) := by decide +kernel
theorem d13_5 : decode method_3_code 5 = .ok (.iconst 1, 1) := by decide +kernel
theorem d13_6 : decode method_3_code 6 = .ok (.bipush 32, 2) := by decide +kernel
theorem d13_8 : decode method_3_code 8 = .ok (.castore, 1) := by decide +kernel
theorem d13_9 : decode method_3_code 9 = .ok (.aload_n 0, 1) := by decide +kernel
theorem d13_10 : decode method_3_code 10 = .ok (.iconst 2, 1) := by decide +kernel
theorem d13_11 : decode method_3_code 11 = .ok (.iload_n 3, 1) := by decide +kernel
theorem d13_12 : decode method_3_code 12 = .ok (.castore, 1) := by decide +kernel
theorem d13_13 : decode method_3_code 13 = .ok (.aload_n 0, 1) := by decide +kernel
theorem d13_14 : decode method_3_code 14 = .ok (.iconst 3, 1) := by decide +kernel
theorem d13_15 : decode method_3_code 15 = .ok (.bipush 32, 2) := by decide +kernel
theorem d13_17 : decode method_3_code 17 = .ok (.castore, 1) := by decide +kernel
theorem d13_18 : decode method_3_code 18 = .ok (.aload_n 0, 1) := by decide +kernel
theorem d13_19 : decode method_3_code 19 = .ok (.iconst 4, 1) := by decide +kernel
theorem d13_20 : decode method_3_code 20 = .ok (.iload_n 2, 1) := by decide +kernel
theorem d13_21 : decode method_3_code 21 = .ok (.castore, 1) := by decide +kernel
theorem d13_22 : decode method_3_code 22 = .ok (.aload_n 0, 1) := by decide +kernel
theorem d13_23 : decode method_3_code 23 = .ok (.iconst 5, 1) := by decide +kernel
theorem d13_24 : decode method_3_code 24 = .ok (.bipush 32, 2) := by decide +kernel
theorem d13_26 : decode method_3_code 26 = .ok (.castore, 1) := by decide +kernel
theorem d13_27 : decode method_3_code 27 = .ok (.return_, 1) := by decide +kernel
theorem d14_0 : decode prog_1_method_6_code 0 = .ok (.new 67, 3) := by decide +kernel
theorem d14_3 : decode prog_1_method_6_code 3 = .ok (.dup, 1) := by decide +kernel
theorem d14_4 : decode prog_1_method_6_code 4 = .ok (.invokespecial 69, 3) := by decide +kernel
theorem d14_7 : decode prog_1_method_6_code 7 = .ok (.ldc 101, 2) := by decide +kernel
theorem d14_9 : decode prog_1_method_6_code 9 = .ok (.invokevirtual 72, 3) := by decide +kernel
theorem d14_12 : decode prog_1_method_6_code 12 = .ok (.aload_n 1, 1) := by decide +kernel
theorem d14_13 : decode prog_1_method_6_code 13 = .ok (.invokevirtual 72, 3) := by decide +kernel
theorem d14_16 : decode prog_1_method_6_code 16 = .ok (.ldc 103, 2) := by decide +kernel
theorem d14_18 : decode prog_1_method_6_code 18 = .ok (.invokevirtual 72, 3) := by decide +kernel
theorem d14_21 : decode prog_1_method_6_code 21 = .ok (.aload_n 2, 1) := by decide +kernel
theorem d14_22 : decode prog_1_method_6_code 22 = .ok (.invokevirtual 72, 3) := by decide +kernel
theorem d14_25 : decode prog_1_method_6_code 25 = .ok (.ldc 105, 2) := by decide +kernel
theorem d14_27 : decode prog_1_method_6_code 27 = .ok (.invokevirtual 72, 3) := by decide +kernel
theorem d14_30 : decode prog_1_method_6_code 30 = .ok (.aload_n 3, 1) := by decide +kernel
theorem d14_31 : decode prog_1_method_6_code 31 = .ok (.invokevirtual 72, 3) := by decide +kernel
theorem d14_34 : decode prog_1_method_6_code 34 = .ok (.ldc 107, 2) := by decide +kernel
theorem d14_36 : decode prog_1_method_6_code 36 = .ok (.invokevirtual 72, 3) := by decide +kernel
theorem d14_39 : decode prog_1_method_6_code 39 = .ok (.aload_n 1, 1) := by decide +kernel
theorem d14_40 : decode prog_1_method_6_code 40 = .ok (.invokevirtual 72, 3) := by decide +kernel
theorem d14_43 : decode prog_1_method_6_code 43 = .ok (.ldc 109, 2) := by decide +kernel
theorem d14_45 : decode prog_1_method_6_code 45 = .ok (.invokevirtual 72, 3) := by decide +kernel
theorem d14_48 : decode prog_1_method_6_code 48 = .ok (.aload_n 1, 1) := by decide +kernel
theorem d14_49 : decode prog_1_method_6_code 49 = .ok (.invokevirtual 72, 3) := by decide +kernel
theorem d14_52 : decode prog_1_method_6_code 52 = .ok (.ldc 103, 2) := by decide +kernel
theorem d14_54 : decode prog_1_method_6_code 54 = .ok (.invokevirtual 72, 3) := by decide +kernel
theorem d14_57 : decode prog_1_method_6_code 57 = .ok (.aload_n 2, 1) := by decide +kernel
theorem d14_58 : decode prog_1_method_6_code 58 = .ok (.invokevirtual 72, 3) := by decide +kernel
theorem d14_61 : decode prog_1_method_6_code 61 = .ok (.ldc 105, 2) := by decide +kernel
theorem d14_63 : decode prog_1_method_6_code 63 = .ok (.invokevirtual 72, 3) := by decide +kernel
theorem d14_66 : decode prog_1_method_6_code 66 = .ok (.aload_n 3, 1) := by decide +kernel
theorem d14_67 : decode prog_1_method_6_code 67 = .ok (.invokevirtual 72, 3) := by decide +kernel
theorem d14_70 : decode prog_1_method_6_code 70 = .ok (.ldc 107, 2) := by decide +kernel
theorem d14_72 : decode prog_1_method_6_code 72 = .ok (.invokevirtual 72, 3) := by decide +kernel
theorem d14_75 : decode prog_1_method_6_code 75 = .ok (.aload_n 2, 1) := by decide +kernel
theorem d14_76 : decode prog_1_method_6_code 76 = .ok (.invokevirtual 72, 3) := by decide +kernel
theorem d14_79 : decode prog_1_method_6_code 79 = .ok (.ldc 111, 2) := by decide +kernel
theorem d14_81 : decode prog_1_method_6_code 81 = .ok (.invokevirtual 72, 3) := by decide +kernel
theorem d14_84 : decode prog_1_method_6_code 84 = .ok (.invokevirtual 82, 3) := by decide +kernel
theorem d14_87 : decode prog_1_method_6_code 87 = .ok (.astore 4, 2) := by decide +kernel
theorem d14_89 : decode prog_1_method_6_code 89 = .ok (.aload_n 0, 1) := by decide +kernel
theorem d14_90 : decode prog_1_method_6_code 90 = .ok (.invokevirtual 113, 3) := by decide +kernel
theorem d14_93 : decode prog_1_method_6_code 93 = .ok (.tableswitch 39 0 5 #[49, 54, 82, 123, 159, 200], 39) := by decide +kernel
theorem d14_142 : decode prog_1_method_6_code 142 = .ok (.aload 4, 2) := by decide +kernel
theorem d14_144 : decode prog_1_method_6_code 144 = .ok (.goto 182, 3) := by decide +kernel
theorem d14_147 : decode prog_1_method_6_code 147 = .ok (.new 67, 3) := by decide +kernel
theorem d14_150 : decode prog_1_method_6_code 150 = .ok (.dup, 1) := by decide +kernel
theorem d14_151 : decode prog_1_method_6_code 151 = .ok (.invokespecial 69, 3) := by decide +kernel
theorem d14_154 : decode prog_1_method_6_code 154 = .ok (.ldc 122, 2) := by decide +kernel
theorem d14_156 : decode prog_1_method_6_code 156 = .ok (.invokevirtual 72, 3) := by decide +kernel
theorem d14_159 : decode prog_1_method_6_code 159 = .ok (.aload 4, 2) := by decide +kernel
theorem d14_161 : decode prog_1_method_6_code 161 = .ok (.invokevirtual 72, 3) := by decide +kernel
theorem d14_164 : decode prog_1_method_6_code 164 = .ok (.ldc 111, 2) := by decide +kernel
theorem d14_166 : decode prog_1_method_6_code 166 = .ok (.invokevirtual 72, 3) := by decide +kernel
theorem d14_169 : decode prog_1_method_6_code 169 = .ok (.invokevirtual 82, 3) := by decide +kernel
theorem d14_172 : decode prog_1_method_6_code 172 = .ok (.goto 154, 3) := by decide +kernel
theorem d14_175 : decode prog_1_method_6_code 175 = .ok (.new 67, 3) := by decide +kernel
theorem d14_178 : decode prog_1_method_6_code 178 = .ok (.dup, 1) := by decide +kernel
theorem d14_179 : decode prog_1_method_6_code 179 = .ok (.invokespecial 69, 3) := by decide +kernel
theorem d14_182 : decode prog_1_method_6_code 182 = .ok (.aload_n 1, 1) := by decide +kernel
theorem d14_183 : decode prog_1_method_6_code 183 = .ok (.invokevirtual 72, 3) := by decide +kernel
theorem d14_186 : decode prog_1_method_6_code 186 = .ok (.ldc 124, 2) := by decide +kernel
theorem d14_188 : decode prog_1_method_6_code 188 = .ok (.invokevirtual 72, 3) := by decide +kernel
theorem d14_191 : decode prog_1_method_6_code 191 = .ok (.aload_n 2, 1) := by decide +kernel
theorem d14_192 : decode prog_1_method_6_code 192 = .ok (.invokevirtual 72, 3) := by decide +kernel
theorem d14_195 : decode prog_1_method_6_code 195 = .ok (.ldc 126, 2) := by decide +kernel
theorem d14_197 : decode prog_1_method_6_code 197 = .ok (.invokevirtual 72, 3) := by decide +kernel
theorem d14_200 : decode prog_1_method_6_code 200 = .ok (.aload 4, 2) := by decide +kernel
theorem d14_202 : decode prog_1_method_6_code 202 = .ok (.invokevirtual 72, 3) := by decide +kernel
theorem d14_205 : decode prog_1_method_6_code 205 = .ok (.ldc 111, 2) := by decide +kernel
theorem d14_207 : decode prog_1_method_6_code 207 = .ok (.invokevirtual 72, 3) := by decide +kernel
theorem d14_210 : decode prog_1_method_6_code 210 = .ok (.invokevirtual 82, 3) := by decide +kernel
theorem d14_213 : decode prog_1_method_6_code 213 = .ok (.goto 113, 3) := by decide +kernel
theorem d14_216 : decode prog_1_method_6_code 216 = .ok (.new 67, 3) := by decide +kernel
theorem d14_219 : decode prog_1_method_6_code 219 = .ok (.dup, 1) := by decide +kernel
theorem d14_220 : decode prog_1_method_6_code 220 = .ok (.invokespecial 69, 3) := by decide +kernel
theorem d14_223 : decode prog_1_method_6_code 223 = .ok (.aload_n 1, 1) := by decide +kernel
theorem d14_224 : decode prog_1_method_6_code 224 = .ok (.invokevirtual 72, 3) := by decide +kernel
theorem d14_227 : decode prog_1_method_6_code 227 = .ok (.ldc 124, 2) := by decide +kernel
theorem d14_229 : decode prog_1_method_6_code 229 = .ok (.invokevirtual 72, 3) := by decide +kernel
theorem d14_232 : decode prog_1_method_6_code 232 = .ok (.aload_n 2, 1) := by decide +kernel
theorem d14_233 : decode prog_1_method_6_code 233 = .ok (.invokevirtual 72, 3) := by decide +kernel
theorem d14_236 : decode prog_1_method_6_code 236 = .ok (.ldc 128, 2) := by decide +kernel
theorem d14_238 : decode prog_1_method_6_code 238 = .ok (.invokevirtual 72, 3) := by decide +kernel
theorem d14_241 : decode prog_1_method_6_code 241 = .ok (.aload 4, 2) := by decide +kernel
theorem d14_243 : decode prog_1_method_6_code 243 = .ok (.invokevirtual 72, 3) := by decide +kernel
theorem d14_246 : decode prog_1_method_6_code 246 = .ok (.invokevirtual 82, 3) := by decide +kernel
theorem d14_249 : decode prog_1_method_6_code 249 = .ok (.goto 77, 3) := by decide +kernel
theorem d14_252 : decode prog_1_method_6_code 252 = .ok (.new 67, 3) := by decide +kernel
theorem d14_255 : decode prog_1_method_6_code 255 = .ok (.dup, 1) := by decide +kernel
theorem d14_256 : decode prog_1_method_6_code 256 = .ok (.invokespecial 69, 3) := by decide +kernel
theorem d14_259 : decode prog_1_method_6_code 259 = .ok (.aload_n 1, 1) := by decide +kernel
theorem d14_260 : decode prog_1_method_6_code 260 = .ok (.invokevirtual 72, 3) := by decide +kernel
theorem d14_263 : decode prog_1_method_6_code 263 = .ok (.ldc 130, 2) := by decide +kernel
theorem d14_265 : decode prog_1_method_6_code 265 = .ok (.invokevirtual 72, 3) := by decide +kernel
theorem d14_268 : decode prog_1_method_6_code 268 = .ok (.aload_n 2, 1) := by decide +kernel
theorem d14_269 : decode prog_1_method_6_code 269 = .ok (.invokevirtual 72, 3) := by decide +kernel
theorem d14_272 : decode prog_1_method_6_code 272 = .ok (.ldc 126, 2) := by decide +kernel
theorem d14_274 : decode prog_1_method_6_code 274 = .ok (.invokevirtual 72, 3) := by decide +kernel
theorem d14_277 : decode prog_1_method_6_code 277 = .ok (.aload 4, 2) := by decide +kernel
theorem d14_279 : decode prog_1_method_6_code 279 = .ok (.invokevirtual 72, 3) := by decide +kernel
theorem d14_282 : decode prog_1_method_6_code 282 = .ok (.ldc 111, 2) := by decide +kernel
theorem d14_284 : decode prog_1_method_6_code 284 = .ok (.invokevirtual 72, 3) := by decide +kernel
theorem d14_287 : decode prog_1_method_6_code 287 = .ok (.invokevirtual 82, 3) := by decide +kernel
theorem d14_290 : decode prog_1_method_6_code 290 = .ok (.goto 36, 3) := by decide +kernel
theorem d14_293 : decode prog_1_method_6_code 293 = .ok (.new 67, 3) := by decide +kernel
theorem d14_296 : decode prog_1_method_6_code 296 = .ok (.dup, 1) := by decide +kernel
theorem d14_297 : decode prog_1_method_6_code 297 = .ok (.invokespecial 69, 3) := by decide +kernel
theorem d14_300 : decode prog_1_method_6_code 300 = .ok (.aload_n 1, 1) := by decide +kernel
theorem d14_301 : decode prog_1_method_6_code 301 = .ok (.invokevirtual 72, 3) := by decide +kernel
theorem d14_304 : decode prog_1_method_6_code 304 = .ok (.ldc 130, 2) := by decide +kernel
theorem d14_306 : decode prog_1_method_6_code 306 = .ok (.invokevirtual 72, 3) := by decide +kernel
theorem d14_309 : decode prog_1_method_6_code 309 = .ok (.aload_n 2, 1) := by decide +kernel
theorem d14_310 : decode prog_1_method_6_code 310 = .ok (.invokevirtual 72, 3) := by decide +kernel
theorem d14_313 : decode prog_1_method_6_code 313 = .ok (.ldc 128, 2) := by decide +kernel
theorem d14_315 : decode prog_1_method_6_code 315 = .ok (.invokevirtual 72, 3) := by decide +kernel
theorem d14_318 : decode prog_1_method_6_code 318 = .ok (.aload 4, 2) := by decide +kernel
theorem d14_320 : decode prog_1_method_6_code 320 = .ok (.invokevirtual 72, 3) := by decide +kernel
theorem d14_323 : decode prog_1_method_6_code 323 = .ok (.invokevirtual 82, 3) := by decide +kernel
theorem d14_326 : decode prog_1_method_6_code 326 = .ok (.areturn, 1) := by decide +kernel
theorem d15_0 : decode jdk_67_method_1_code 0 = .ok (.aload_n 0, 1) := by decide +kernel
theorem d15_1 : decode jdk_67_method_1_code 1 = .ok (.bipush 16, 2) := by decide +kernel
theorem d15_3 : decode jdk_67_method_1_code 3 = .ok (.invokespecial 1, 3) := by decide +kernel
theorem d15_6 : decode jdk_67_method_1_code 6 = .ok (.return_, 1) := by decide +kernel
theorem d16_0 : decode jdk_68_method_2_code 0 = .ok (.aload_n 0, 1) := by decide +kernel
theorem d16_1 : decode jdk_68_method_2_code 1 = .ok (.invokespecial 3, 3) := by decide +kernel
theorem d16_4 : decode jdk_68_method_2_code 4 = .ok (.getstatic 18, 3) := by decide +kernel
theorem d16_7 : decode jdk_68_method_2_code 7 = .ok (.ifCond .eq 18, 3) := by decide +kernel
theorem d16_10 : decode jdk_68_method_2_code 10 = .ok (.aload_n 0, 1) := by decide +kernel
theorem d16_11 : decode jdk_68_method_2_code 11 = .ok (.iload_n 1, 1) := by decide +kernel
theorem d16_12 : decode jdk_68_method_2_code 12 = .ok (.newarray .byte, 2) := by decide +kernel
theorem d16_14 : decode jdk_68_method_2_code 14 = .ok (.putfield 15, 3) := by decide +kernel
theorem d16_17 : decode jdk_68_method_2_code 17 = .ok (.aload_n 0, 1) := by decide +kernel
theorem d16_18 : decode jdk_68_method_2_code 18 = .ok (.iconst 0, 1) := by decide +kernel
theorem d16_19 : decode jdk_68_method_2_code 19 = .ok (.putfield 22, 3) := by decide +kernel
theorem d16_22 : decode jdk_68_method_2_code 22 = .ok (.goto 16, 3) := by decide +kernel
theorem d16_38 : decode jdk_68_method_2_code 38 = .ok (.return_, 1) := by decide +kernel
theorem d17_0 : decode jdk_67_method_7_code 0 = .ok (.aload_n 0, 1) := by decide +kernel
theorem d17_1 : decode jdk_67_method_7_code 1 = .ok (.aload_n 1, 1) := by decide +kernel
theorem d17_2 : decode jdk_67_method_7_code 2 = .ok (.invokespecial 29, 3) := by decide +kernel
theorem d17_5 : decode jdk_67_method_7_code 5 = .ok (.pop, 1) := by decide +kernel
theorem d17_6 : decode jdk_67_method_7_code 6 = .ok (.aload_n 0, 1) := by decide +kernel
theorem d17_7 : decode jdk_67_method_7_code 7 = .ok (.areturn, 1) := by decide +kernel
theorem d18_0 : decode jdk_68_method_22_code 0 = .ok (.aload_n 1, 1) := by decide +kernel
theorem d18_1 : decode jdk_68_method_22_code 1 = .ok (.ifnonnull 8, 3) := by decide +kernel
theorem d18_9 : decode jdk_68_method_22_code 9 = .ok (.aload_n 1, 1) := by decide +kernel
theorem d18_10 : decode jdk_68_method_22_code 10 = .ok (.invokevirtual 32, 3) := by decide +kernel
theorem d18_13 : decode jdk_68_method_22_code 13 = .ok (.istore_n 2, 1) := by decide +kernel
theorem d18_14 : decode jdk_68_method_22_code 14 = .ok (.aload_n 0, 1) := by decide +kernel
theorem d18_15 : decode jdk_68_method_22_code 15 = .ok (.aload_n 0, 1) := by decide +kernel
theorem d18_16 : decode jdk_68_method_22_code 16 = .ok (.getfield 79, 3) := by decide +kernel
theorem d18_19 : decode jdk_68_method_22_code 19 = .ok (.iload_n 2, 1) := by decide +kernel
theorem d18_20 : decode jdk_68_method_22_code 20 = .ok (.iadd, 1) := by decide +kernel
theorem d18_21 : decode jdk_68_method_22_code 21 = .ok (.invokevirtual 100, 3) := by decide +kernel
theorem d18_24 : decode jdk_68_method_22_code 24 = .ok (.aload_n 0, 1) := by decide +kernel
theorem d18_25 : decode jdk_68_method_22_code 25 = .ok (.aload_n 0, 1) := by decide +kernel
theorem d18_26 : decode jdk_68_method_22_code 26 = .ok (.getfield 79, 3) := by decide +kernel
theorem d18_29 : decode jdk_68_method_22_code 29 = .ok (.aload_n 1, 1) := by decide +kernel
theorem d18_30 : decode jdk_68_method_22_code 30 = .ok (.invokevirtual 208, 3) := by decide +kernel
theorem d18_33 : decode jdk_68_method_22_code 33 = .ok (.aload_n 0, 1) := by decide +kernel
theorem d18_34 : decode jdk_68_method_22_code 34 = .ok (.dup, 1) := by decide +kernel
theorem d18_35 : decode jdk_68_method_22_code 35 = .ok (.getfield 79, 3) := by decide +kernel
theorem d18_38 : decode jdk_68_method_22_code 38 = .ok (.iload_n 2, 1) := by decide +kernel
theorem d18_39 : decode jdk_68_method_22_code 39 = .ok (.iadd, 1) := by decide +kernel
theorem d18_40 : decode jdk_68_method_22_code 40 = .ok (.putfield 79, 3) := by decide +kernel
theorem d18_43 : decode jdk_68_method_22_code 43 = .ok (.aload_n 0, 1) := by decide +kernel
theorem d18_44 : decode jdk_68_method_22_code 44 = .ok (.areturn, 1) := by decide +kernel
theorem d19_0 : decode jdk_42_method_54_code 0 = .ok (.aload_n 0, 1) := by decide +kernel
theorem d19_1 : decode jdk_42_method_54_code 1 = .ok (.getfield 9, 3) := by decide +kernel
theorem d19_4 : decode jdk_42_method_54_code 4 = .ok (.arraylength, 1) := by decide +kernel
theorem d19_5 : decode jdk_42_method_54_code 5 = .ok (.aload_n 0, 1) := by decide +kernel
theorem d19_6 : decode jdk_42_method_54_code 6 = .ok (.invokevirtual 335, 3) := by decide +kernel
theorem d19_9 : decode jdk_42_method_54_code 9 = .ok (.ishr, 1) := by decide +kernel
theorem d19_10 : decode jdk_42_method_54_code 10 = .ok (.ireturn, 1) := by decide +kernel
theorem d20_0 : decode jdk_42_method_152_code 0 = .ok (.getstatic 38, 3) := by decide +kernel
theorem d20_3 : decode jdk_42_method_152_code 3 = .ok (.ifCond .eq 10, 3) := by decide +kernel
theorem d20_6 : decode jdk_42_method_152_code 6 = .ok (.aload_n 0, 1) := by decide +kernel
theorem d20_7 : decode jdk_42_method_152_code 7 = .ok (.getfield 15, 3) := by decide +kernel
theorem d20_10 : decode jdk_42_method_152_code 10 = .ok (.goto 4, 3) := by decide +kernel
theorem d20_14 : decode jdk_42_method_152_code 14 = .ok (.ireturn, 1) := by decide +kernel
theorem d21_0 : decode jdk_68_method_9_code 0 = .ok (.aload_n 0, 1) := by decide +kernel
theorem d21_1 : decode jdk_68_method_9_code 1 = .ok (.getfield 15, 3) := by decide +kernel
theorem d21_4 : decode jdk_68_method_9_code 4 = .ok (.arraylength, 1) := by decide +kernel
theorem d21_5 : decode jdk_68_method_9_code 5 = .ok (.aload_n 0, 1) := by decide +kernel
theorem d21_6 : decode jdk_68_method_9_code 6 = .ok (.getfield 22, 3) := by decide +kernel
theorem d21_9 : decode jdk_68_method_9_code 9 = .ok (.ishr, 1) := by decide +kernel
theorem d21_10 : decode jdk_68_method_9_code 10 = .ok (.istore_n 2, 1) := by decide +kernel
theorem d21_11 : decode jdk_68_method_9_code 11 = .ok (.iload_n 1, 1) := by decide +kernel
theorem d21_12 : decode jdk_68_method_9_code 12 = .ok (.iload_n 2, 1) := by decide +kernel
theorem d21_13 : decode jdk_68_method_9_code 13 = .ok (.isub, 1) := by decide +kernel
theorem d21_14 : decode jdk_68_method_9_code 14 = .ok (.ifCond .le 24, 3) := by decide +kernel
theorem d21_17 : decode jdk_68_method_9_code 17 = .ok (.aload_n 0, 1) := by decide +kernel
theorem d21_18 : decode jdk_68_method_9_code 18 = .ok (.aload_n 0, 1) := by decide +kernel
theorem d21_19 : decode jdk_68_method_9_code 19 = .ok (.getfield 15, 3) := by decide +kernel
theorem d21_22 : decode jdk_68_method_9_code 22 = .ok (.aload_n 0, 1) := by decide +kernel
theorem d21_23 : decode jdk_68_method_9_code 23 = .ok (.iload_n 1, 1) := by decide +kernel
theorem d21_24 : decode jdk_68_method_9_code 24 = .ok (.invokevirtual 104, 3) := by decide +kernel
theorem d21_27 : decode jdk_68_method_9_code 27 = .ok (.aload_n 0, 1) := by decide +kernel
theorem d21_28 : decode jdk_68_method_9_code 28 = .ok (.getfield 22, 3) := by decide +kernel
theorem d21_31 : decode jdk_68_method_9_code 31 = .ok (.ishl, 1) := by decide +kernel
theorem d21_32 : decode jdk_68_method_9_code 32 = .ok (.invokestatic 108, 3) := by decide +kernel
theorem d21_35 : decode jdk_68_method_9_code 35 = .ok (.putfield 15, 3) := by decide +kernel
theorem d21_38 : decode jdk_68_method_9_code 38 = .ok (.return_, 1) := by decide +kernel
theorem d22_0 : decode jdk_68_method_73_code 0 = .ok (.aload_n 0, 1) := by decide +kernel
theorem d22_1 : decode jdk_68_method_73_code 1 = .ok (.aload_n 2, 1) := by decide +kernel
theorem d22_2 : decode jdk_68_method_73_code 2 = .ok (.invokevirtual 397, 3) := by decide +kernel
theorem d22_5 : decode jdk_68_method_73_code 5 = .ok (.aload_n 2, 1) := by decide +kernel
theorem d22_6 : decode jdk_68_method_73_code 6 = .ok (.aload_n 0, 1) := by decide +kernel
theorem d22_7 : decode jdk_68_method_73_code 7 = .ok (.getfield 15, 3) := by decide +kernel
theorem d22_10 : decode jdk_68_method_73_code 10 = .ok (.iload_n 1, 1) := by decide +kernel
theorem d22_11 : decode jdk_68_method_73_code 11 = .ok (.aload_n 0, 1) := by decide +kernel
theorem d22_12 : decode jdk_68_method_73_code 12 = .ok (.getfield 22, 3) := by decide +kernel
theorem d22_15 : decode jdk_68_method_73_code 15 = .ok (.invokevirtual 399, 3) := by decide +kernel
theorem d22_18 : decode jdk_68_method_73_code 18 = .ok (.return_, 1) := by decide +kernel
theorem d23_0 : decode jdk_68_method_71_code 0 = .ok (.getstatic 18, 3) := by decide +kernel
theorem d23_3 : decode jdk_68_method_71_code 3 = .ok (.ifCond .eq 18, 3) := by decide +kernel
theorem d23_6 : decode jdk_68_method_71_code 6 = .ok (.aload_n 0, 1) := by decide +kernel
theorem d23_7 : decode jdk_68_method_71_code 7 = .ok (.getfield 22, 3) := by decide +kernel
theorem d23_10 : decode jdk_68_method_71_code 10 = .ok (.aload_n 1, 1) := by decide +kernel
theorem d23_11 : decode jdk_68_method_71_code 11 = .ok (.invokevirtual 40, 3) := by decide +kernel
theorem d23_14 : decode jdk_68_method_71_code 14 = .ok (.if_icmp .eq 7, 3) := by decide +kernel
theorem d23_21 : decode jdk_68_method_71_code 21 = .ok (.return_, 1) := by decide +kernel
theorem d24_0 : decode jdk_42_method_147_code 0 = .ok (.aload_n 0, 1) := by decide +kernel
theorem d24_1 : decode jdk_42_method_147_code 1 = .ok (.invokevirtual 335, 3) := by decide +kernel
theorem d24_4 : decode jdk_42_method_147_code 4 = .ok (.iload_n 3, 1) := by decide +kernel
theorem d24_5 : decode jdk_42_method_147_code 5 = .ok (.if_icmp .ne 23, 3) := by decide +kernel
theorem d24_8 : decode jdk_42_method_147_code 8 = .ok (.aload_n 0, 1) := by decide +kernel
theorem d24_9 : decode jdk_42_method_147_code 9 = .ok (.getfield 9, 3) := by decide +kernel
theorem d24_12 : decode jdk_42_method_147_code 12 = .ok (.iconst 0, 1) := by decide +kernel
theorem d24_13 : decode jdk_42_method_147_code 13 = .ok (.aload_n 1, 1) := by decide +kernel
theorem d24_14 : decode jdk_42_method_147_code 14 = .ok (.iload_n 2, 1) := by decide +kernel
theorem d24_15 : decode jdk_42_method_147_code 15 = .ok (.iload_n 3, 1) := by decide +kernel
theorem d24_16 : decode jdk_42_method_147_code 16 = .ok (.ishl, 1) := by decide +kernel
theorem d24_17 : decode jdk_42_method_147_code 17 = .ok (.aload_n 0, 1) := by decide +kernel
theorem d24_18 : decode jdk_42_method_147_code 18 = .ok (.getfield 9, 3) := by decide +kernel
theorem d24_21 : decode jdk_42_method_147_code 21 = .ok (.arraylength, 1) := by decide +kernel
theorem d24_22 : decode jdk_42_method_147_code 22 = .ok (.invokestatic 212, 3) := by decide +kernel
theorem d24_25 : decode jdk_42_method_147_code 25 = .ok (.goto 18, 3) := by decide +kernel
theorem d24_43 : decode jdk_42_method_147_code 43 = .ok (.return_, 1) := by decide +kernel
theorem d25_0 : decode jdk_68_method_10_code 0 = .ok (.aload_n 0, 1) := by decide +kernel
theorem d25_1 : decode jdk_68_method_10_code 1 = .ok (.getfield 15, 3) := by decide +kernel
theorem d25_4 : decode jdk_68_method_10_code 4 = .ok (.arraylength, 1) := by decide +kernel
theorem d25_5 : decode jdk_68_method_10_code 5 = .ok (.istore_n 2, 1) := by decide +kernel
theorem d25_6 : decode jdk_68_method_10_code 6 = .ok (.iload_n 1, 1) := by decide +kernel
theorem d25_7 : decode jdk_68_method_10_code 7 = .ok (.aload_n 0, 1) := by decide +kernel
theorem d25_8 : decode jdk_68_method_10_code 8 = .ok (.getfield 22, 3) := by decide +kernel
theorem d25_11 : decode jdk_68_method_10_code 11 = .ok (.ishl, 1) := by decide +kernel
theorem d25_12 : decode jdk_68_method_10_code 12 = .ok (.istore_n 3, 1) := by decide +kernel
theorem d25_13 : decode jdk_68_method_10_code 13 = .ok (.iload_n 3, 1) := by decide +kernel
theorem d25_14 : decode jdk_68_method_10_code 14 = .ok (.iload_n 2, 1) := by decide +kernel
theorem d25_15 : decode jdk_68_method_10_code 15 = .ok (.isub, 1) := by decide +kernel
theorem d25_16 : decode jdk_68_method_10_code 16 = .ok (.istore 4, 2) := by decide +kernel
theorem d25_18 : decode jdk_68_method_10_code 18 = .ok (.iload_n 2, 1) := by decide +kernel
theorem d25_19 : decode jdk_68_method_10_code 19 = .ok (.iload 4, 2) := by decide +kernel
theorem d25_21 : decode jdk_68_method_10_code 21 = .ok (.iload_n 2, 1) := by decide +kernel
theorem d25_22 : decode jdk_68_method_10_code 22 = .ok (.iconst 2, 1) := by decide +kernel
theorem d25_23 : decode jdk_68_method_10_code 23 = .ok (.aload_n 0, 1) := by decide +kernel
theorem d25_24 : decode jdk_68_method_10_code 24 = .ok (.getfield 22, 3) := by decide +kernel
theorem d25_27 : decode jdk_68_method_10_code 27 = .ok (.ishl, 1) := by decide +kernel
theorem d25_28 : decode jdk_68_method_10_code 28 = .ok (.iadd, 1) := by decide +kernel
theorem d25_29 : decode jdk_68_method_10_code 29 = .ok (.invokestatic 114, 3) := by decide +kernel
theorem d25_32 : decode jdk_68_method_10_code 32 = .ok (.istore 5, 2) := by decide +kernel
theorem d25_34 : decode jdk_68_method_10_code 34 = .ok (.iload 5, 2) := by decide +kernel
theorem d25_36 : decode jdk_68_method_10_code 36 = .ok (.ldc 39, 2) := by decide +kernel
theorem d25_38 : decode jdk_68_method_10_code 38 = .ok (.if_icmp .ne 13, 3) := by decide +kernel
theorem d25_51 : decode jdk_68_method_10_code 51 = .ok (.iload 5, 2) := by decide +kernel
theorem d25_53 : decode jdk_68_method_10_code 53 = .ok (.aload_n 0, 1) := by decide +kernel
theorem d25_54 : decode jdk_68_method_10_code 54 = .ok (.getfield 22, 3) := by decide +kernel
theorem d25_57 : decode jdk_68_method_10_code 57 = .ok (.ishr, 1) := by decide +kernel
theorem d25_58 : decode jdk_68_method_10_code 58 = .ok (.ireturn, 1) := by decide +kernel
theorem d26_0 : decode jdk_48_method_27_code 0 = .ok (.iload_n 0, 1) := by decide +kernel
theorem d26_1 : decode jdk_48_method_27_code 1 = .ok (.iload_n 1, 1) := by decide +kernel
theorem d26_2 : decode jdk_48_method_27_code 2 = .ok (.iload_n 2, 1) := by decide +kernel
theorem d26_3 : decode jdk_48_method_27_code 3 = .ok (.invokestatic 194, 3) := by decide +kernel
theorem d26_6 : decode jdk_48_method_27_code 6 = .ok (.iadd, 1) := by decide +kernel
theorem d26_7 : decode jdk_48_method_27_code 7 = .ok (.istore_n 3, 1) := by decide +kernel
theorem d26_8 : decode jdk_48_method_27_code 8 = .ok (.iconst 0, 1) := by decide +kernel
theorem d26_9 : decode jdk_48_method_27_code 9 = .ok (.iload_n 3, 1) := by decide +kernel
theorem d26_10 : decode jdk_48_method_27_code 10 = .ok (.if_icmp .ge 11, 3) := by decide +kernel
theorem d26_13 : decode jdk_48_method_27_code 13 = .ok (.iload_n 3, 1) := by decide +kernel
theorem d26_14 : decode jdk_48_method_27_code 14 = .ok (.ldc 200, 2) := by decide +kernel
theorem d26_16 : decode jdk_48_method_27_code 16 = .ok (.if_icmp .gt 5, 3) := by decide +kernel
theorem d26_19 : decode jdk_48_method_27_code 19 = .ok (.iload_n 3, 1) := by decide +kernel
theorem d26_20 : decode jdk_48_method_27_code 20 = .ok (.ireturn, 1) := by decide +kernel
theorem d27_0 : decode jdk_29_method_65_code 0 = .ok (.iload_n 0, 1) := by decide +kernel
theorem d27_1 : decode jdk_29_method_65_code 1 = .ok (.iload_n 1, 1) := by decide +kernel
theorem d27_2 : decode jdk_29_method_65_code 2 = .ok (.if_icmp .lt 7, 3) := by decide +kernel
theorem d27_5 : decode jdk_29_method_65_code 5 = .ok (.iload_n 0, 1) := by decide +kernel
theorem d27_6 : decode jdk_29_method_65_code 6 = .ok (.goto 4, 3) := by decide +kernel
theorem d27_9 : decode jdk_29_method_65_code 9 = .ok (.iload_n 1, 1) := by decide +kernel
theorem d27_10 : decode jdk_29_method_65_code 10 = .ok (.ireturn, 1) := by decide +kernel
theorem d28_0 : decode jdk_65_method_121_code 0 = .ok (.iload_n 1, 1) := by decide +kernel
theorem d28_1 : decode jdk_65_method_121_code 1 = .ok (.aload_n 0, 1) := by decide +kernel
theorem d28_2 : decode jdk_65_method_121_code 2 = .ok (.arraylength, 1) := by decide +kernel
theorem d28_3 : decode jdk_65_method_121_code 3 = .ok (.if_icmp .ne 11, 3) := by decide +kernel
theorem d28_14 : decode jdk_65_method_121_code 14 = .ok (.iload_n 1, 1) := by decide +kernel
theorem d28_15 : decode jdk_65_method_121_code 15 = .ok (.newarray .byte, 2) := by decide +kernel
theorem d28_17 : decode jdk_65_method_121_code 17 = .ok (.astore_n 2, 1) := by decide +kernel
theorem d28_18 : decode jdk_65_method_121_code 18 = .ok (.aload_n 0, 1) := by decide +kernel
theorem d28_19 : decode jdk_65_method_121_code 19 = .ok (.iconst 0, 1) := by decide +kernel
theorem d28_20 : decode jdk_65_method_121_code 20 = .ok (.aload_n 2, 1) := by decide +kernel
theorem d28_21 : decode jdk_65_method_121_code 21 = .ok (.iconst 0, 1) := by decide +kernel
theorem d28_22 : decode jdk_65_method_121_code 22 = .ok (.aload_n 0, 1) := by decide +kernel
theorem d28_23 : decode jdk_65_method_121_code 23 = .ok (.arraylength, 1) := by decide +kernel
theorem d28_24 : decode jdk_65_method_121_code 24 = .ok (.iload_n 1, 1) := by decide +kernel
theorem d28_25 : decode jdk_65_method_121_code 25 = .ok (.invokestatic 304, 3) := by decide +kernel
theorem d28_28 : decode jdk_65_method_121_code 28 = .ok (.invokestatic 150, 3) := by decide +kernel
theorem d28_31 : decode jdk_65_method_121_code 31 = .ok (.aload_n 2, 1) := by decide +kernel
theorem d28_32 : decode jdk_65_method_121_code 32 = .ok (.areturn, 1) := by decide +kernel
theorem d29_0 : decode jdk_29_method_69_code 0 = .ok (.iload_n 0, 1) := by decide +kernel
theorem d29_1 : decode jdk_29_method_69_code 1 = .ok (.iload_n 1, 1) := by decide +kernel
theorem d29_2 : decode jdk_29_method_69_code 2 = .ok (.if_icmp .gt 7, 3) := by decide +kernel
theorem d29_5 : decode jdk_29_method_69_code 5 = .ok (.iload_n 0, 1) := by decide +kernel
theorem d29_6 : decode jdk_29_method_69_code 6 = .ok (.goto 4, 3) := by decide +kernel
theorem d29_9 : decode jdk_29_method_69_code 9 = .ok (.iload_n 1, 1) := by decide +kernel
theorem d29_10 : decode jdk_29_method_69_code 10 = .ok (.ireturn, 1) := by decide +kernel
theorem d30_0 : decode jdk_67_method_42_code 0 = .ok (.new 18, 3) := by decide +kernel
theorem d30_3 : decode jdk_67_method_42_code 3 = .ok (.dup, 1) := by decide +kernel
theorem d30_4 : decode jdk_67_method_42_code 4 = .ok (.aload_n 0, 1) := by decide +kernel
theorem d30_5 : decode jdk_67_method_42_code 5 = .ok (.invokespecial 137, 3) := by decide +kernel
theorem d30_8 : decode jdk_67_method_42_code 8 = .ok (.areturn, 1) := by decide +kernel
theorem d31_0 : decode jdk_42_method_53_code 0 = .ok (.aload_n 0, 1) := by decide +kernel
theorem d31_1 : decode jdk_42_method_53_code 1 = .ok (.aload_n 1, 1) := by decide +kernel
theorem d31_2 : decode jdk_42_method_53_code 2 = .ok (.aconst_null, 1) := by decide +kernel
theorem d31_3 : decode jdk_42_method_53_code 3 = .ok (.invokespecial 489, 3) := by decide +kernel
theorem d31_6 : decode jdk_42_method_53_code 6 = .ok (.return_, 1) := by decide +kernel
theorem d32_0 : decode jdk_42_method_150_code 0 = .ok (.aload_n 0, 1) := by decide +kernel
theorem d32_1 : decode jdk_42_method_150_code 1 = .ok (.invokespecial 1, 3) := by decide +kernel
theorem d32_4 : decode jdk_42_method_150_code 4 = .ok (.aload_n 1, 1) := by decide +kernel
theorem d32_5 : decode jdk_42_method_150_code 5 = .ok (.invokevirtual 552, 3) := by decide +kernel
theorem d32_8 : decode jdk_42_method_150_code 8 = .ok (.astore_n 3, 1) := by decide +kernel
theorem d32_9 : decode jdk_42_method_150_code 9 = .ok (.aload_n 1, 1) := by decide +kernel
theorem d32_10 : decode jdk_42_method_150_code 10 = .ok (.invokevirtual 549, 3) := by decide +kernel
theorem d32_13 : decode jdk_42_method_150_code 13 = .ok (.istore 4, 2) := by decide +kernel
theorem d32_15 : decode jdk_42_method_150_code 15 = .ok (.aload_n 1, 1) := by decide +kernel
theorem d32_16 : decode jdk_42_method_150_code 16 = .ok (.invokevirtual 1047, 3) := by decide +kernel
theorem d32_19 : decode jdk_42_method_150_code 19 = .ok (.ifCond .eq 22, 3) := by decide +kernel
theorem d32_22 : decode jdk_42_method_150_code 22 = .ok (.aload_n 0, 1) := by decide +kernel
theorem d32_23 : decode jdk_42_method_150_code 23 = .ok (.iconst 0, 1) := by decide +kernel
theorem d32_24 : decode jdk_42_method_150_code 24 = .ok (.putfield 15, 3) := by decide +kernel
theorem d32_27 : decode jdk_42_method_150_code 27 = .ok (.aload_n 0, 1) := by decide +kernel
theorem d32_28 : decode jdk_42_method_150_code 28 = .ok (.aload_n 3, 1) := by decide +kernel
theorem d32_29 : decode jdk_42_method_150_code 29 = .ok (.iconst 0, 1) := by decide +kernel
theorem d32_30 : decode jdk_42_method_150_code 30 = .ok (.iload 4, 2) := by decide +kernel
theorem d32_32 : decode jdk_42_method_150_code 32 = .ok (.invokestatic 54, 3) := by decide +kernel
theorem d32_35 : decode jdk_42_method_150_code 35 = .ok (.putfield 9, 3) := by decide +kernel
theorem d32_38 : decode jdk_42_method_150_code 38 = .ok (.goto 59, 3) := by decide +kernel
theorem d32_97 : decode jdk_42_method_150_code 97 = .ok (.return_, 1) := by decide +kernel
theorem d33_0 : decode jdk_68_method_64_code 0 = .ok (.aload_n 0, 1) := by decide +kernel
theorem d33_1 : decode jdk_68_method_64_code 1 = .ok (.getfield 15, 3) := by decide +kernel
theorem d33_4 : decode jdk_68_method_64_code 4 = .ok (.areturn, 1) := by decide +kernel
theorem d34_0 : decode jdk_67_method_93_code 0 = .ok (.aload_n 0, 1) := by decide +kernel
theorem d34_1 : decode jdk_67_method_93_code 1 = .ok (.invokespecial 343, 3) := by decide +kernel
theorem d34_4 : decode jdk_67_method_93_code 4 = .ok (.ireturn, 1) := by decide +kernel
theorem d35_0 : decode jdk_68_method_6_code 0 = .ok (.aload_n 0, 1) := by decide +kernel
theorem d35_1 : decode jdk_68_method_6_code 1 = .ok (.getfield 79, 3) := by decide +kernel
theorem d35_4 : decode jdk_68_method_6_code 4 = .ok (.ireturn, 1) := by decide +kernel
theorem d36_0 : decode jdk_68_method_68_code 0 = .ok (.getstatic 18, 3) := by decide +kernel
theorem d36_3 : decode jdk_68_method_68_code 3 = .ok (.ifCond .eq 14, 3) := by decide +kernel
theorem d36_6 : decode jdk_68_method_68_code 6 = .ok (.aload_n 0, 1) := by decide +kernel
theorem d36_7 : decode jdk_68_method_68_code 7 = .ok (.getfield 22, 3) := by decide +kernel
theorem d36_10 : decode jdk_68_method_68_code 10 = .ok (.ifCond .ne 7, 3) := by decide +kernel
theorem d36_13 : decode jdk_68_method_68_code 13 = .ok (.iconst 1, 1) := by decide +kernel
theorem d36_14 : decode jdk_68_method_68_code 14 = .ok (.goto 4, 3) := by decide +kernel
theorem d36_18 : decode jdk_68_method_68_code 18 = .ok (.ireturn, 1) := by decide +kernel
theorem d37_0 : decode jdk_65_method_132_code 0 = .ok (.iload_n 1, 1) := by decide +kernel
theorem d37_1 : decode jdk_65_method_132_code 1 = .ok (.ifCond .ne 9, 3) := by decide +kernel
theorem d37_4 : decode jdk_65_method_132_code 4 = .ok (.iload_n 2, 1) := by decide +kernel
theorem d37_5 : decode jdk_65_method_132_code 5 = .ok (.aload_n 0, 1) := by decide +kernel
theorem d37_6 : decode jdk_65_method_132_code 6 = .ok (.arraylength, 1) := by decide +kernel
theorem d37_7 : decode jdk_65_method_132_code 7 = .ok (.if_icmp .eq 10, 3) := by decide +kernel
theorem d37_10 : decode jdk_65_method_132_code 10 = .ok (.aload_n 0, 1) := by decide +kernel
theorem d37_11 : decode jdk_65_method_132_code 11 = .ok (.iload_n 1, 1) := by decide +kernel
theorem d37_12 : decode jdk_65_method_132_code 12 = .ok (.iload_n 2, 1) := by decide +kernel
theorem d37_13 : decode jdk_65_method_132_code 13 = .ok (.invokestatic 339, 3) := by decide +kernel
theorem d37_16 : decode jdk_65_method_132_code 16 = .ok (.areturn, 1) := by decide +kernel
theorem d37_17 : decode jdk_65_method_132_code 17 = .ok (.aload_n 0, 1) := by decide +kernel
theorem d37_18 : decode jdk_65_method_132_code 18 = .ok (.invokevirtual 310, 3) := by decide +kernel
theorem d37_21 : decode jdk_65_method_132_code 21 = .ok (.checkcast 311, 3) := by decide +kernel
theorem d37_24 : decode jdk_65_method_132_code 24 = .ok (.areturn, 1) := by decide +kernel
theorem d38_0 : decode jdk_65_method_133_code 0 = .ok (.iload_n 1, 1) := by decide +kernel
theorem d38_1 : decode jdk_65_method_133_code 1 = .ok (.iload_n 2, 1) := by decide +kernel
theorem d38_2 : decode jdk_65_method_133_code 2 = .ok (.invokestatic 343, 3) := by decide +kernel
theorem d38_5 : decode jdk_65_method_133_code 5 = .ok (.iload_n 2, 1) := by decide +kernel
theorem d38_6 : decode jdk_65_method_133_code 6 = .ok (.iload_n 1, 1) := by decide +kernel
theorem d38_7 : decode jdk_65_method_133_code 7 = .ok (.isub, 1) := by decide +kernel
theorem d38_8 : decode jdk_65_method_133_code 8 = .ok (.istore_n 3, 1) := by decide +kernel
theorem d38_9 : decode jdk_65_method_133_code 9 = .ok (.iload_n 3, 1) := by decide +kernel
theorem d38_10 : decode jdk_65_method_133_code 10 = .ok (.newarray .byte, 2) := by decide +kernel
theorem d38_12 : decode jdk_65_method_133_code 12 = .ok (.astore 4, 2) := by decide +kernel
theorem d38_14 : decode jdk_65_method_133_code 14 = .ok (.aload_n 0, 1) := by decide +kernel
theorem d38_15 : decode jdk_65_method_133_code 15 = .ok (.iload_n 1, 1) := by decide +kernel
theorem d38_16 : decode jdk_65_method_133_code 16 = .ok (.aload 4, 2) := by decide +kernel
theorem d38_18 : decode jdk_65_method_133_code 18 = .ok (.iconst 0, 1) := by decide +kernel
theorem d38_19 : decode jdk_65_method_133_code 19 = .ok (.aload_n 0, 1) := by decide +kernel
theorem d38_20 : decode jdk_65_method_133_code 20 = .ok (.arraylength, 1) := by decide +kernel
theorem d38_21 : decode jdk_65_method_133_code 21 = .ok (.iload_n 1, 1) := by decide +kernel
theorem d38_22 : decode jdk_65_method_133_code 22 = .ok (.isub, 1) := by decide +kernel
theorem d38_23 : decode jdk_65_method_133_code 23 = .ok (.iload_n 3, 1) := by decide +kernel
theorem d38_24 : decode jdk_65_method_133_code 24 = .ok (.invokestatic 304, 3) := by decide +kernel
theorem d38_27 : decode jdk_65_method_133_code 27 = .ok (.invokestatic 150, 3) := by decide +kernel
theorem d38_30 : decode jdk_65_method_133_code 30 = .ok (.aload 4, 2) := by decide +kernel
theorem d38_32 : decode jdk_65_method_133_code 32 = .ok (.areturn, 1) := by decide +kernel
theorem d39_0 : decode jdk_65_method_131_code 0 = .ok (.iload_n 1, 1) := by decide +kernel
theorem d39_1 : decode jdk_65_method_131_code 1 = .ok (.iload_n 0, 1) := by decide +kernel
theorem d39_2 : decode jdk_65_method_131_code 2 = .ok (.if_icmp .ge 35, 3) := by decide +kernel
theorem d39_37 : decode jdk_65_method_131_code 37 = .ok (.return_, 1) := by decide +kernel
theorem d40_0 : decode jdk_37_method_2_code 0 = .ok (.aload_n 0, 1) := by decide +kernel
theorem d40_1 : decode jdk_37_method_2_code 1 = .ok (.getfield 7, 3) := by decide +kernel
theorem d40_4 : decode jdk_37_method_2_code 4 = .ok (.ireturn, 1) := by decide +kernel
theorem pn_java_lang_AbstractStringBuilder : plainName "java/lang/AbstractStringBuilder" = true := by first | (simp [plainName, overriddenIn]; done) | decide +kernel
theorem pn_java_lang_StringBuilder : plainName "java/lang/StringBuilder" = true := by first | (simp [plainName, overriddenIn]; done) | decide +kernel
theorem pd_I_R_V : parseMethodDescriptor "(I)V" = some ⟨[.int], none⟩ := by decide +kernel
theorem pn_java_lang_String : plainName "java/lang/String" = true := by first | (simp [plainName, overriddenIn]; done) | decide +kernel
theorem pd__R_B : parseMethodDescriptor "()B" = some ⟨[], some .byte⟩ := by decide +kernel
theorem pd_Ljava_lang_String_R_V : parseMethodDescriptor "(Ljava/lang/String;)V" = some ⟨[(.object "java/lang/String")], none⟩ := by decide +kernel
theorem pd_ABIB_R_V : parseMethodDescriptor "([BIB)V" = some ⟨[(.array .byte), .int, .byte], none⟩ := by decide +kernel
theorem pn_jdk_internal_util_ArraysSupport : plainName "jdk/internal/util/ArraysSupport" = true := by first | (simp [plainName, overriddenIn]; done) | decide +kernel
theorem pd_II_R_I : parseMethodDescriptor "(II)I" = some ⟨[.int, .int], some .int⟩ := by decide +kernel
theorem pd_III_R_I : parseMethodDescriptor "(III)I" = some ⟨[.int, .int, .int], some .int⟩ := by decide +kernel
theorem pn_java_util_Arrays : plainName "java/util/Arrays" = true := by first | (simp [plainName, overriddenIn]; done) | decide +kernel
theorem pd_I_R_I : parseMethodDescriptor "(I)I" = some ⟨[.int], some .int⟩ := by decide +kernel
theorem pd_ABI_R_AB : parseMethodDescriptor "([BI)[B" = some ⟨[(.array .byte), .int], some (.array .byte)⟩ := by decide +kernel
theorem pd__R_I : parseMethodDescriptor "()I" = some ⟨[], some .int⟩ := by decide +kernel
theorem pd_ILjava_lang_String_R_V : parseMethodDescriptor "(ILjava/lang/String;)V" = some ⟨[.int, (.object "java/lang/String")], none⟩ := by decide +kernel
theorem pd_Ljava_lang_String_R_Ljava_lang_AbstractStringBuilder : parseMethodDescriptor "(Ljava/lang/String;)Ljava/lang/AbstractStringBuilder;" = some ⟨[(.object "java/lang/String")], some (.object "java/lang/AbstractStringBuilder")⟩ := by decide +kernel
theorem pd_II_R_V : parseMethodDescriptor "(II)V" = some ⟨[.int, .int], none⟩ := by decide +kernel
theorem pd_ABII_R_AB : parseMethodDescriptor "([BII)[B" = some ⟨[(.array .byte), .int, .int], some (.array .byte)⟩ := by decide +kernel
theorem pd__R_AB : parseMethodDescriptor "()[B" = some ⟨[], some (.array .byte)⟩ := by decide +kernel
theorem pd__R_Z : parseMethodDescriptor "()Z" = some ⟨[], some .boolean⟩ := by decide +kernel
theorem pd_Ljava_lang_AbstractStringBuilderLjava_lang_Void_R_V : parseMethodDescriptor "(Ljava/lang/AbstractStringBuilder;Ljava/lang/Void;)V" = some ⟨[(.object "java/lang/AbstractStringBuilder"), (.object "java/lang/Void")], none⟩ := by decide +kernel
theorem pd_Ljava_lang_StringBuilder_R_V : parseMethodDescriptor "(Ljava/lang/StringBuilder;)V" = some ⟨[(.object "java/lang/StringBuilder")], none⟩ := by decide +kernel
theorem pn_java_lang_StringLatin1 : plainName "java/lang/StringLatin1" = true := by first | (simp [plainName, overriddenIn]; done) | decide +kernel
theorem pd_C_R_Z : parseMethodDescriptor "(C)Z" = some ⟨[.char], some .boolean⟩ := by decide +kernel
theorem pd_C_R_AB : parseMethodDescriptor "(C)[B" = some ⟨[.char], some (.array .byte)⟩ := by decide +kernel
theorem pd_ABB_R_V : parseMethodDescriptor "([BB)V" = some ⟨[(.array .byte), .byte], none⟩ := by decide +kernel
theorem pn_law : plainName x.cls = true := by first | (simp [plainName, overriddenIn, x]; done) | decide +kernel
theorem pd_ACICCC_R_V : parseMethodDescriptor "([CICCC)V" = some ⟨[(.array .char), .int, .char, .char, .char], none⟩ := by decide +kernel
theorem pd_AC_R_V : parseMethodDescriptor "([C)V" = some ⟨[(.array .char)], none⟩ := by decide +kernel
theorem pd_ACCCC_R_V : parseMethodDescriptor "([CCCC)V" = some ⟨[(.array .char), .char, .char, .char], none⟩ := by decide +kernel
theorem pn_java_lang_Enum : plainName "java/lang/Enum" = true := by first | (simp [plainName, overriddenIn]; done) | decide +kernel
theorem pn_cmp : plainName site_118.cls = true := by first | (simp [plainName, overriddenIn, site_118]; done) | decide +kernel
theorem pd__R_V : parseMethodDescriptor "()V" = some ⟨[], none⟩ := by decide +kernel
theorem pd_Ljava_lang_String_R_Ljava_lang_StringBuilder : parseMethodDescriptor "(Ljava/lang/String;)Ljava/lang/StringBuilder;" = some ⟨[(.object "java/lang/String")], some (.object "java/lang/StringBuilder")⟩ := by decide +kernel
theorem pd__R_Ljava_lang_String : parseMethodDescriptor "()Ljava/lang/String;" = some ⟨[], some (.object "java/lang/String")⟩ := by decide +kernel
theorem pd_C_R_Ljava_lang_String : parseMethodDescriptor "(C)Ljava/lang/String;" = some ⟨[.char], some (.object "java/lang/String")⟩ := by decide +kernel
theorem pd_ICCC_R_Ljava_lang_String : parseMethodDescriptor "(ICCC)Ljava/lang/String;" = some ⟨[.int, .char, .char, .char], some (.object "java/lang/String")⟩ := by decide +kernel
theorem pd_Ljava_lang_StringLjava_lang_StringLjava_lang_String_R_Ljava_lang_String : parseMethodDescriptor "(Ljava/lang/String;Ljava/lang/String;Ljava/lang/String;)Ljava/lang/String;" = some ⟨[(.object "java/lang/String"), (.object "java/lang/String"), (.object "java/lang/String")], some (.object "java/lang/String")⟩ := by decide +kernel
theorem pd_Ljava_lang_Object_R_Z : parseMethodDescriptor "(Ljava/lang/Object;)Z" = some ⟨[(.object "java/lang/Object")], some .boolean⟩ := by decide +kernel
def UST (Z : State) (zc : Int32) (fm : Value) : Prop := ¬ zc = 0 ∧ Sta Z Z.heap "java/lang/String" "COMPACT_STRINGS" "Z" (.int zc) ∧ True ∧ True ∧ True ∧ fm.isRef = true ∧ Sta Z Z.heap "jdk/internal/util/Preconditions" "SIOOBE_FORMATTER" "Ljava/util/function/BiFunction;" fm
theorem own_narc {ch : Int32} (hb : ¬ ch < 0 ∧ ¬ (65535 : Int32) < ch) : nar .char ch = ch := by
  have q := StrChars.narrow_ch hb.1 hb.2
  have e : narrow .char (.int ch) = .int (nar .char ch) := rfl
  rw [e] at q; exact Value.int.inj q
def By (c : Int32) : Prop := ¬ c < 0 ∧ ¬ (255 : Int32) < c
theorem By.ch {c : Int32} (h : By c) : ¬ c < 0 ∧ ¬ (65535 : Int32) < c := ⟨h.1, own_up h.2⟩
/-- x is a Latin-1 String of the n chars f, its bytes at t -/
def Lt (Z : State) (h : Heap) (x t : Addr) (kb : ClassId) (n : Nat) (f : Nat → Int32) : Prop := Exa Z h x "java/lang/String" ∧ Fld Z h x "java/lang/String" "value" "[B" (.ref t) ∧ Fld Z h x "java/lang/String" "coder" "B" (.int 0) ∧ W.Arg Z h t kb .byte n (fun i => StrChars.lo8 (f i)) ∧ ∀ i, i < n → By (f i)
theorem Lt.ext {Z : State} {h h' : Heap} {x t : Addr} {kb : ClassId} {n : Nat} {f : Nat → Int32} (S : Lt Z h x t kb n f) (E : Ext h h') : Lt Z h' x t kb n f := ⟨S.1.ext E, S.2.1.ext E, S.2.2.1.ext E, S.2.2.2.1.ext E, S.2.2.2.2⟩
theorem Lt.other {Z : State} {h h' : Heap} {x t a : Addr} {kb : ClassId} {n : Nat} {f : Nat → Int32} {sl : Nat} {v : Value} (S : Lt Z h x t kb n f) (Wq : Wr h h' a sl v) (q1 : x ≠ a) (q2 : t ≠ a) : Lt Z h' x t kb n f := ⟨S.1.wr Wq, S.2.1.other Wq (Or.inl q1), S.2.2.1.other Wq (Or.inl q1), S.2.2.2.1.other Wq q2, S.2.2.2.2⟩
theorem Lt.ofStr {Z : State} {h : Heap} {x : Addr} {cs : List Int32} (S : W.Str Z h x cs) (hb : ∀ c ∈ cs, ¬ (255 : Int32) < c) : ∃ t kb, Lt Z h x t kb cs.length (fun i => cs.getD i 0) := by
  obtain ⟨t, kb, N, cd, vs, a, b, c, d, f, g, i⟩ := S
  rcases f with ⟨rfl, rfl, rfl, -⟩ | ⟨-, -, -, c, hc, hw⟩
  · have gm : ∀ j, j < cs.length → cs.getD j 0 ∈ cs := fun j hj => by
      rw [List.getD_eq_getElem?_getD, List.getElem?_eq_getElem hj]; exact List.getElem_mem hj
    refine ⟨t, kb, a, b, c, W.Arg.of cs.length d (by simp) (by omega) (fun j hj => ?_), fun j hj => ⟨(g _ (gm j hj)).1, hb _ (gm j hj)⟩⟩
    simp only [List.getD_eq_getElem?_getD, List.getElem?_map]; rw [List.getElem?_eq_getElem hj]; rfl
  · exact absurd hw (hb c hc)
theorem own_toStr {Z : State} {h : Heap} {x a : Addr} {k : ClassId} {n : Nat} {g : Nat → Int32} {cs : List Int32} (E : Exa Z h x "java/lang/String") (F : Fld Z h x "java/lang/String" "value" "[B" (.ref a)) (C : Fld Z h x "java/lang/String" "coder" "B" (.int 0)) (A : W.Arg Z h a k .byte n g) (hl : cs.length = n) (hn : n ≤ 4000) (q : ∀ i, i < n → g i = StrChars.lo8 (cs.getD i 0)) (hb : ∀ c ∈ cs, By c) : W.Str Z h x cs := by
  have V := W.Arg.list (cs := cs.map StrChars.lo8) A (by simp [hl]) (fun i hi => by
    rw [q i hi]; simp only [List.getD_eq_getElem?_getD, List.getElem?_map]; rw [List.getElem?_eq_getElem (by omega)]; rfl)
  exact ⟨a, k, _, 0, _, E, F, C, V, StrChars.Road.codOf hl (fun c hc => (hb c hc).2), fun c hc => (hb c hc).ch, by omega⟩
/-- x is a StringBuilder of cnt Latin-1 bytes g, in an array t of cap places -/
def Sb (Z : State) (h : Heap) (x t : Addr) (kb : ClassId) (cap cnt : Nat) (g : Nat → Int32) : Prop := Exa Z h x "java/lang/StringBuilder" ∧ Fld Z h x "java/lang/AbstractStringBuilder" "value" "[B" (.ref t) ∧ Fld Z h x "java/lang/AbstractStringBuilder" "coder" "B" (.int 0) ∧ Fld Z h x "java/lang/AbstractStringBuilder" "count" "I" (.int (Int32.ofNat cnt)) ∧ W.Arg Z h t kb .byte cap g ∧ Exa Z h t "[B"
theorem Sb.ext {Z : State} {h h' : Heap} {x t : Addr} {kb : ClassId} {cap cnt : Nat} {g : Nat → Int32} (S : Sb Z h x t kb cap cnt g) (E : Ext h h') : Sb Z h' x t kb cap cnt g := ⟨S.1.ext E, S.2.1.ext E, S.2.2.1.ext E, S.2.2.2.1.ext E, S.2.2.2.2.1.ext E, S.2.2.2.2.2.ext E⟩
theorem own_shr0 (n : Nat) : Int32.ofNat n >>> ((0 : Int32) &&& 31) = Int32.ofNat n := by
  have e : ((0 : Int32) &&& 31) = 0 := by decide
  rw [e]; exact Int32.shiftRight_zero
theorem own_shl0 (n : Nat) : Int32.ofNat n <<< ((0 : Int32) &&& 31) = Int32.ofNat n := by
  have e : ((0 : Int32) &&& 31) = 0 := by decide
  rw [e]; exact Int32.shiftLeft_zero
theorem own_sub0 (n : Nat) : Int32.ofNat n - 0 = Int32.ofNat n := Int32.sub_zero _
theorem own_le0 {a b : Nat} (h : a ≤ b) (hb : b < 2147483648) : ¬ (0 : Int32) < Int32.ofNat a - Int32.ofNat b := by
  rw [Int32.lt_iff_toInt_lt, Int32.toInt_sub, W.i32 (by omega), W.i32 hb, Int.bmod_eq_of_le (by omega) (by omega)]
  have e : (0 : Int32).toInt = 0 := rfl
  omega
theorem own_ek {Z : State} {h0 h : Heap} {x : Addr} (EZ : Ext Z.heap h0) (K : Keep h0 h [x]) (hx : Z.heap.size ≤ x) : Ext Z.heap h := W.Ext.keepNew EZ K (allS hx all0)
theorem own_add (a b : Nat) : Int32.ofNat a + Int32.ofNat b = Int32.ofNat (a + b) := (Int32.ofNat_add a b).symm
def QAI (Z : State) (x : Addr) (h0 : Heap) (v : Option Value) (h : Heap) (L : List Loc) : Prop := v = none ∧ W.Frw [x] h0.size L ∧ Keep h0 h [x] ∧ ∃ t kb, h0.size ≤ t ∧ Sb Z h x t kb 16 0 (fun _ => 0)
set_option maxRecDepth 65536 in
set_option maxHeartbeats 40000000 in
theorem c_aini (l : Launch) (Z : State) (a0 : Array Value) (hw : ∀ d ∈ tables_1, d.before a0 Z = true) (x : Addr) (h0 : Heap) (E0 : Exa Z h0 x "java/lang/StringBuilder") (v0 c0 : Value) (F0 : Fld Z h0 x "java/lang/AbstractStringBuilder" "value" "[B" v0) (C0 : Fld Z h0 x "java/lang/AbstractStringBuilder" "coder" "B" c0) (N0 : Fld Z h0 x "java/lang/AbstractStringBuilder" "count" "I" (.int 0)) (EZ : Ext Z.heap h0) (zc : Int32) (fm : Value) (US : UST Z zc fm) : W.MetN l Z (⟨"java/lang/AbstractStringBuilder", "<init>", "(I)V"⟩ : MethodName) jdk_68_method_2_code 2 ((Option.none : Option Jvm.ClassFile.FieldType)) [] ({ frames := 1, cells := 1, slots := 16, locals := 14 } : Room) #[.ref x, .int 16]  h0 (QAI Z x h0) := by
  refine W.MetN.mk (ls0 := #[.val (.ref x), .val (.int (16 : Int32))]) [x] (plainFor_of_name pn_java_lang_AbstractStringBuilder) (fun m => by first | (simp [entryFrame, mkF, argsToLocals, Value.category]; done) | rfl) ?_
  intro p e s m below meth c s₁ hml hret hnm hlk P0
  show W.Go p.tables e below _ (s₁.setTop (mkF m 0 #[.val (.ref x), .val (.int (16 : Int32))] []))
  refine W.g_aloadN (pc1 := 1) P0.q d16_0 rfl rfl rfl ?_
  refine P0.initO (pc1 := 4) (W := 0) (wd hw (k := 74) rfl) (wd hw (k := 20) rfl) (wd hw (k := 21) rfl) (by rw [hml]; rfl) (by decide) (Nat.le_of_eq rfl) (by decide) d16_1 rfl ?_
  intro T101 P101
  refine P101.getS (pc1 := 7) (wd hw (k := 75) rfl) Via.refl (US.2.1.ext EZ) d16_4 rfl ?_
  intro T102 P102
  refine W.g_ifN (pc2 := 10) P102.q d16_7 rfl US.1 ?_
  refine W.g_aloadN (pc1 := 11) P102.q d16_10 rfl rfl rfl ?_
  refine W.g_iloadN (pc1 := 12) P102.q d16_11 rfl rfl ?_
  refine P102.newPE (pc1 := 14) (cap := 16) (ad := "[B") (wd hw (k := 14) rfl) (by decide) (by decide) (by decide) (by decide) (by decide) (by decide) d16_12 rfl ?_
  intro T103 h103 x103 k103 g103 P103 E103 V103 Y103
  have G0 : W.Arg Z h103 x103 k103 .byte 16 (fun _ => 0) := W.Arg.new (by decide) V103
  have hne : x103 ≠ x := Ne.symm (Nat.ne_of_lt (by rw [g103]; exact E0.lt))
  refine P103.putF (host := "") (pc1 := 17) (Or.inl (wd hw (k := 76) rfl)) Via.refl (F0.ext E103) (E0.ext E103) (Or.inl (wd hw (k := 77) rfl)) (wd hw (k := 63) rfl) (ty := (.array .byte)) (by decide) rfl rfl (Or.inl (List.mem_singleton.mpr rfl)) W.safe0 d16_14 rfl ?_
  intro T104 h104 P104 W104
  have Ea := (E0.ext E103).wr W104
  have Fa := (F0.ext E103).same W104
  have Ca := (C0.ext E103).other W104 (Or.inr (slot_ne (t := .byte) (t' := .array .byte) (Or.inl (wd hw (k := 79) rfl)) (Or.inl (wd hw (k := 77) rfl)) (by decide) (by decide) (by decide)))
  have Na := (N0.ext E103).other W104 (Or.inr (slot_ne (t := .int) (t' := .array .byte) (Or.inl (wd hw (k := 104) rfl)) (Or.inl (wd hw (k := 77) rfl)) (by decide) (by decide) (by decide)))
  have Ga := G0.other W104 hne
  refine W.g_aloadN (pc1 := 18) P104.q d16_17 rfl rfl rfl ?_
  refine W.g_iconst (pc1 := 19) (v := (0 : Int32)) P104.q d16_18 (by decide) rfl ?_
  refine P104.putF (host := "") (pc1 := 22) (Or.inl (wd hw (k := 78) rfl)) Via.refl Ca Ea (Or.inl (wd hw (k := 79) rfl)) (wd hw (k := 63) rfl) (ty := .byte) (by decide) rfl rfl (Or.inl (List.mem_singleton.mpr rfl)) W.safe0 d16_19 rfl ?_
  intro T105 h105 P105 W105
  have Eb := Ea.wr W105
  have Fb := Fa.other W105 (Or.inr (slot_ne (t := .array .byte) (t' := .byte) (Or.inl (wd hw (k := 77) rfl)) (Or.inl (wd hw (k := 79) rfl)) (by decide) (by decide) (by decide)))
  have Cb := Ca.same W105
  have Nb := Na.other W105 (Or.inr (slot_ne (t := .int) (t' := .byte) (Or.inl (wd hw (k := 104) rfl)) (Or.inl (wd hw (k := 79) rfl)) (by decide) (by decide) (by decide)))
  have Gb := Ga.other W105 hne
  refine W.g_goto (pc1 := 38) P105.q d16_22 (by decide) rfl ?_
  exact P105.retN hlk hret d16_38 (by decide) (by decide) ⟨rfl, P105.fr, P105.keep, x103, k103, Nat.le_of_eq g103.symm, Eb, Fb, Cb, Nb, Gb, (Y103.wr W104).wr W105⟩
set_option maxRecDepth 65536 in
set_option maxHeartbeats 40000000 in
theorem c_sini (l : Launch) (Z : State) (a0 : Array Value) (hw : ∀ d ∈ tables_1, d.before a0 Z = true) (x : Addr) (h0 : Heap) (E0 : Exa Z h0 x "java/lang/StringBuilder") (v0 c0 : Value) (F0 : Fld Z h0 x "java/lang/AbstractStringBuilder" "value" "[B" v0) (C0 : Fld Z h0 x "java/lang/AbstractStringBuilder" "coder" "B" c0) (N0 : Fld Z h0 x "java/lang/AbstractStringBuilder" "count" "I" (.int 0)) (EZ : Ext Z.heap h0) (zc : Int32) (fm : Value) (US : UST Z zc fm) : W.MetN l Z (⟨"java/lang/StringBuilder", "<init>", "()V"⟩ : MethodName) jdk_67_method_1_code 1 ((Option.none : Option Jvm.ClassFile.FieldType)) [] ({ frames := 2, cells := 1, slots := 16, locals := 28 } : Room) #[.ref x]  h0 (QAI Z x h0) := by
  refine W.MetN.mk (ls0 := #[.val (.ref x)]) [x] (plainFor_of_name pn_java_lang_StringBuilder) (fun m => by first | (simp [entryFrame, mkF, argsToLocals, Value.category]; done) | rfl) ?_
  intro p e s m below meth c s₁ hml hret hnm hlk P0
  show W.Go p.tables e below _ (s₁.setTop (mkF m 0 #[.val (.ref x)] []))
  refine W.g_aloadN (pc1 := 1) P0.q d15_0 rfl rfl rfl ?_
  refine W.g_bipush (pc1 := 3) (v := (16 : Int32)) P0.q d15_1 (by decide) rfl ?_
  refine P0.callN (pc1 := 6) rfl (wd hw (k := 68) rfl) (wd hw (k := 69) rfl) (wd hw (k := 73) rfl) (by decide) (W.MetN.pay (W := 0) (c_aini l Z a0 hw x h0 E0 v0 c0 F0 C0 N0 EZ zc fm US) P0 (wd hw (k := 73) rfl) (wd hw (k := 72) rfl) (by decide) (by decide)) (argsL := [(.int (16 : Int32))]) (st0 := []) (lenOf pd_I_R_V rfl) rfl rfl (Nat.le_of_eq rfl) (by rw [hml]; rfl) (by decide) (by decide) (fun _ _ _ q => ⟨q.2.1, CHr.keep q.2.2.1 (sfS W.safe0 sf0) P0.chv⟩) d15_3 rfl ?_
  intro v106 T106 h106 L106 q106 P106
  obtain ⟨rfl, f106, K106, q106⟩ := q106
  show W.Go p.tables e below _ (T106.setTop (mkF m 6 #[.val (.ref x)] []))
  exact P106.retN hlk hret d15_6 (by decide) (by decide) ⟨rfl, P106.fr, P106.keep, q106⟩
set_option maxRecDepth 65536 in
set_option maxHeartbeats 40000000 in
theorem c_coder (l : Launch) (Z : State) (a0 : Array Value) (hw : ∀ d ∈ tables_1, d.before a0 Z = true) (x : Addr) (cd : Int32) (hcd : cd = 0 ∨ cd = 1) (h0 : Heap) (F0 : Fld Z h0 x "java/lang/String" "coder" "B" (.int cd)) (EZ : Ext Z.heap h0) (zc : Int32) (fm : Value) (US : UST Z zc fm) : W.MetN l Z (⟨"java/lang/String", "coder", "()B"⟩ : MethodName) jdk_42_method_152_code 1 ((Option.some Jvm.ClassFile.FieldType.byte)) [] ({ frames := 0, cells := 0, slots := 0, locals := 0 } : Room) #[.ref x]  h0 (W.Pure (some (.int cd)) h0) := by
  refine W.MetN.mk (ls0 := #[.val (.ref x)]) [] (plainFor_of_name pn_java_lang_String) (fun m => by first | (simp [entryFrame, mkF, argsToLocals, Value.category]; done) | rfl) ?_
  intro p e s m below meth c s₁ hml hret hnm hlk P0
  show W.Go p.tables e below _ (s₁.setTop (mkF m 0 #[.val (.ref x)] []))
  refine P0.getS (pc1 := 3) (wd hw (k := 4) rfl) Via.refl (US.2.1.ext (P0.extZ EZ all0)) d20_0 rfl ?_
  intro T107 P107
  refine W.g_ifN (pc2 := 6) P107.q d20_3 rfl US.1 ?_
  refine W.g_aloadN (pc1 := 7) P107.q d20_6 rfl rfl rfl ?_
  refine P107.getF (host := "") (pc1 := 10) (Or.inl (wd hw (k := 24) rfl)) Via.refl F0 d20_7 rfl ?_
  intro T108 P108
  refine W.g_goto (pc1 := 14) P108.q d20_10 (by decide) rfl ?_
  exact P108.retVN hlk hret (Or.inr (Or.inl rfl)) d20_14 (by decide) (by decide) ⟨by rcases hcd with q | q <;> subst q <;> rfl, rfl, rfl⟩
set_option maxRecDepth 65536 in
set_option maxHeartbeats 40000000 in
theorem c_len (l : Launch) (Z : State) (a0 : Array Value) (hw : ∀ d ∈ tables_1, d.before a0 Z = true) (x t : Addr) (kb : ClassId) (n : Nat) (f : Nat → Int32) (h0 : Heap) (S0 : Lt Z h0 x t kb n f) (EZ : Ext Z.heap h0) (zc : Int32) (fm : Value) (US : UST Z zc fm) : W.MetN l Z (⟨"java/lang/String", "length", "()I"⟩ : MethodName) jdk_42_method_54_code 1 ((Option.some Jvm.ClassFile.FieldType.int)) [] ({ frames := 1, cells := 0, slots := 0, locals := 13 } : Room) #[.ref x]  h0 (W.Pure (some (.int (Int32.ofNat n))) h0) := by
  refine W.MetN.mk (ls0 := #[.val (.ref x)]) [] (plainFor_of_name pn_java_lang_String) (fun m => by first | (simp [entryFrame, mkF, argsToLocals, Value.category]; done) | rfl) ?_
  intro p e s m below meth c s₁ hml hret hnm hlk P0
  show W.Go p.tables e below _ (s₁.setTop (mkF m 0 #[.val (.ref x)] []))
  refine W.g_aloadN (pc1 := 1) P0.q d19_0 rfl rfl rfl ?_
  refine P0.getF (host := "") (pc1 := 4) (Or.inl (wd hw (k := 22) rfl)) Via.refl S0.2.1 d19_1 rfl ?_
  intro T109 P109
  refine P109.lenG (pc1 := 5) S0.2.2.2.1 d19_4 rfl ?_
  refine W.g_aloadN (pc1 := 6) P109.q d19_5 rfl rfl rfl ?_
  refine P109.callV (pc1 := 9) S0.1 (wd hw (k := 98) rfl) (wd hw (k := 99) rfl) (wd hw (k := 101) rfl) (wd hw (k := 100) rfl) (notFace_of_selects (args := #[]) (mvT P109.hz (wd hw (k := 101) rfl))) (by decide) (W.MetN.pay (W := 1) (c_coder l Z a0 hw x 0 (Or.inl rfl) h0 S0.2.2.1 EZ zc fm US) P109 (wd hw (k := 102) rfl) (wd hw (k := 2) rfl) (by decide) (by decide)) (argsL := []) (st0 := [(.int (Int32.ofNat n))]) (lenOf pd__R_B rfl) rfl rfl (Nat.le_of_eq rfl) (by rw [hml]; rfl) (by decide) (by decide) (W.Pure.ok P109.chv) d19_6 rfl ?_
  intro v110 T110 h110 L110 q110 P110
  obtain ⟨rfl, rfl, rfl⟩ := q110
  show W.Go p.tables e below _ (T110.setTop (mkF m 9 #[.val (.ref x)] [(.int (0 : Int32)), (.int (Int32.ofNat n))]))
  refine W.g_ishr (pc1 := 10) P110.q d19_9 rfl ?_
  rw [own_shr0]
  exact P110.retIN hlk hret d19_10 (by decide) (by decide) ⟨rfl, rfl, rfl⟩
set_option maxRecDepth 65536 in
set_option maxHeartbeats 40000000 in
theorem c_ens (l : Launch) (Z : State) (a0 : Array Value) (hw : ∀ d ∈ tables_1, d.before a0 Z = true) (x t : Addr) (kb : ClassId) (cap cnt : Nat) (g : Nat → Int32) (h0 : Heap) (B0 : Sb Z h0 x t kb cap cnt g) (mn : Nat) (hm : mn ≤ cap) : W.MetN l Z (⟨"java/lang/AbstractStringBuilder", "ensureCapacityInternal", "(I)V"⟩ : MethodName) jdk_68_method_9_code 3 ((Option.none : Option Jvm.ClassFile.FieldType)) [] ({ frames := 0, cells := 0, slots := 0, locals := 0 } : Room) #[.ref x, .int (Int32.ofNat mn)]  h0 (W.Pure none h0) := by
  refine W.MetN.mk (ls0 := #[.val (.ref x), .val (.int (Int32.ofNat mn)), .unset]) [] (plainFor_of_name pn_java_lang_AbstractStringBuilder) (fun m => by first | (simp [entryFrame, mkF, argsToLocals, Value.category]; done) | rfl) ?_
  intro p e s m below meth c s₁ hml hret hnm hlk P0
  show W.Go p.tables e below _ (s₁.setTop (mkF m 0 #[.val (.ref x), .val (.int (Int32.ofNat mn)), .unset] []))
  refine W.g_aloadN (pc1 := 1) P0.q d21_0 rfl rfl rfl ?_
  refine P0.getF (host := "") (pc1 := 4) (Or.inl (wd hw (k := 76) rfl)) Via.refl B0.2.1 d21_1 rfl ?_
  intro T111 P111
  refine P111.lenG (pc1 := 5) B0.2.2.2.2.1 d21_4 rfl ?_
  refine W.g_aloadN (pc1 := 6) P111.q d21_5 rfl rfl rfl ?_
  refine P111.getF (host := "") (pc1 := 9) (Or.inl (wd hw (k := 78) rfl)) Via.refl B0.2.2.1 d21_6 rfl ?_
  intro T112 P112
  refine W.g_ishr (pc1 := 10) P112.q d21_9 rfl ?_
  rw [own_shr0]
  refine W.g_istoreN (pc1 := 11) (ls2 := #[.val (.ref x), .val (.int (Int32.ofNat mn)), .val (.int (Int32.ofNat cap))]) P112.q d21_10 rfl rfl ?_
  refine W.g_iloadN (pc1 := 12) P112.q d21_11 rfl rfl ?_
  refine W.g_iloadN (pc1 := 13) P112.q d21_12 rfl rfl ?_
  refine W.g_isub (pc1 := 14) P112.q d21_13 rfl ?_
  refine W.g_ifY (pc1 := 38) P112.q d21_14 (by decide) rfl (own_le0 hm B0.2.2.2.2.1.small) ?_
  exact P112.retN hlk hret d21_38 (by decide) (by decide) ⟨rfl, rfl, rfl⟩
set_option maxRecDepth 65536 in
set_option maxHeartbeats 40000000 in
theorem c_infl (l : Launch) (Z : State) (a0 : Array Value) (hw : ∀ d ∈ tables_1, d.before a0 Z = true) (x t : Addr) (kb : ClassId) (cap cnt : Nat) (g : Nat → Int32) (y u : Addr) (ku : ClassId) (n : Nat) (f : Nat → Int32) (h0 : Heap) (B0 : Sb Z h0 x t kb cap cnt g) (S0 : Lt Z h0 y u ku n f) (EZ : Ext Z.heap h0) (zc : Int32) (fm : Value) (US : UST Z zc fm) : W.MetN l Z (⟨"java/lang/AbstractStringBuilder", "inflateIfNeededFor", "(Ljava/lang/String;)V"⟩ : MethodName) jdk_68_method_71_code 2 ((Option.none : Option Jvm.ClassFile.FieldType)) [] ({ frames := 1, cells := 0, slots := 0, locals := 13 } : Room) #[.ref x, .ref y]  h0 (W.Pure none h0) := by
  refine W.MetN.mk (ls0 := #[.val (.ref x), .val (.ref y)]) [] (plainFor_of_name pn_java_lang_AbstractStringBuilder) (fun m => by first | (simp [entryFrame, mkF, argsToLocals, Value.category]; done) | rfl) ?_
  intro p e s m below meth c s₁ hml hret hnm hlk P0
  show W.Go p.tables e below _ (s₁.setTop (mkF m 0 #[.val (.ref x), .val (.ref y)] []))
  refine P0.getS (pc1 := 3) (wd hw (k := 75) rfl) Via.refl (US.2.1.ext EZ) d23_0 rfl ?_
  intro T113 P113
  refine W.g_ifN (pc2 := 6) P113.q d23_3 rfl US.1 ?_
  refine W.g_aloadN (pc1 := 7) P113.q d23_6 rfl rfl rfl ?_
  refine P113.getF (host := "") (pc1 := 10) (Or.inl (wd hw (k := 78) rfl)) Via.refl B0.2.2.1 d23_7 rfl ?_
  intro T114 P114
  refine W.g_aloadN (pc1 := 11) P114.q d23_10 rfl rfl rfl ?_
  refine P114.callV (pc1 := 14) S0.1 (wd hw (k := 120) rfl) (wd hw (k := 99) rfl) (wd hw (k := 101) rfl) (wd hw (k := 100) rfl) (notFace_of_selects (args := #[]) (mvT P114.hz (wd hw (k := 101) rfl))) (by decide) (W.MetN.pay (W := 1) (c_coder l Z a0 hw y 0 (Or.inl rfl) h0 S0.2.2.1 EZ zc fm US) P114 (wd hw (k := 102) rfl) (wd hw (k := 2) rfl) (by decide) (by decide)) (argsL := []) (st0 := [(.int (0 : Int32))]) (lenOf pd__R_B rfl) rfl rfl (Nat.le_of_eq rfl) (by rw [hml]; rfl) (by decide) (by decide) (W.Pure.ok P114.chv) d23_11 rfl ?_
  intro v115 T115 h115 L115 q115 P115
  obtain ⟨rfl, rfl, rfl⟩ := q115
  show W.Go p.tables e below _ (T115.setTop (mkF m 14 #[.val (.ref x), .val (.ref y)] [(.int (0 : Int32)), (.int (0 : Int32))]))
  refine W.g_cmpY (pc1 := 21) P115.q d23_14 (by decide) rfl (by decide) ?_
  exact P115.retN hlk hret d23_21 (by decide) (by decide) ⟨rfl, rfl, rfl⟩
def QGB (Z : State) (d : Addr) (kd : ClassId) (cap : Nat) (g : Nat → Int32) (h0 : Heap) (v : Option Value) (h : Heap) (L : List Loc) : Prop := v = none ∧ W.Frw [d] h0.size L ∧ Keep h0 h [d] ∧ W.Arg Z h d kd .byte cap g
set_option maxRecDepth 65536 in
set_option maxHeartbeats 40000000 in
theorem c_gb (l : Launch) (Z : State) (a0 : Array Value) (hw : ∀ d ∈ tables_1, d.before a0 Z = true) (y u : Addr) (ku : ClassId) (n : Nat) (f : Nat → Int32) (d : Addr) (kd : ClassId) (cap cnt : Nat) (g : Nat → Int32) (h0 : Heap) (S0 : Lt Z h0 y u ku n f) (D0 : W.Arg Z h0 d kd .byte cap g) (hc : cnt + n ≤ cap) (EZ : Ext Z.heap h0) (zc : Int32) (fm : Value) (US : UST Z zc fm) : W.MetN l Z (⟨"java/lang/String", "getBytes", "([BIB)V"⟩ : MethodName) jdk_42_method_147_code 4 ((Option.none : Option Jvm.ClassFile.FieldType)) [] ({ frames := 1, cells := 0, slots := 0, locals := 20 } : Room) #[.ref y, .ref d, .int (Int32.ofNat cnt), .int 0]  h0 (QGB Z d kd cap (W.cpy (fun i => StrChars.lo8 (f i)) g 0 cnt n) h0) := by
  refine W.MetN.mk (ls0 := #[.val (.ref y), .val (.ref d), .val (.int (Int32.ofNat cnt)), .val (.int (0 : Int32))]) [d] (plainFor_of_name pn_java_lang_String) (fun m => by first | (simp [entryFrame, mkF, argsToLocals, Value.category]; done) | rfl) ?_
  intro p e s m below meth c s₁ hml hret hnm hlk P0
  show W.Go p.tables e below _ (s₁.setTop (mkF m 0 #[.val (.ref y), .val (.ref d), .val (.int (Int32.ofNat cnt)), .val (.int (0 : Int32))] []))
  refine W.g_aloadN (pc1 := 1) P0.q d24_0 rfl rfl rfl ?_
  refine P0.callV (pc1 := 4) S0.1 (wd hw (k := 98) rfl) (wd hw (k := 99) rfl) (wd hw (k := 101) rfl) (wd hw (k := 100) rfl) (notFace_of_selects (args := #[]) (mvT P0.hz (wd hw (k := 101) rfl))) (by decide) (W.MetN.pay (W := 0) (c_coder l Z a0 hw y 0 (Or.inl rfl) h0 S0.2.2.1 EZ zc fm US) P0 (wd hw (k := 102) rfl) (wd hw (k := 2) rfl) (by decide) (by decide)) (argsL := []) (st0 := []) (lenOf pd__R_B rfl) rfl rfl (Nat.le_of_eq rfl) (by rw [hml]; rfl) (by decide) (by decide) (W.Pure.ok P0.chv) d24_1 rfl ?_
  intro v116 T116 h116 L116 q116 P116
  obtain ⟨rfl, rfl, rfl⟩ := q116
  show W.Go p.tables e below _ (T116.setTop (mkF m 4 #[.val (.ref y), .val (.ref d), .val (.int (Int32.ofNat cnt)), .val (.int (0 : Int32))] [(.int (0 : Int32))]))
  refine W.g_iloadN (pc1 := 5) P116.q d24_4 rfl rfl ?_
  refine W.g_cmpN (pc2 := 8) P116.q d24_5 rfl (by decide) ?_
  refine W.g_aloadN (pc1 := 9) P116.q d24_8 rfl rfl rfl ?_
  refine P116.getF (host := "") (pc1 := 12) (Or.inl (wd hw (k := 22) rfl)) Via.refl S0.2.1 d24_9 rfl ?_
  intro T117 P117
  refine W.g_iconst (pc1 := 13) (v := (0 : Int32)) P117.q d24_12 (by decide) rfl ?_
  refine W.g_aloadN (pc1 := 14) P117.q d24_13 rfl rfl rfl ?_
  refine W.g_iloadN (pc1 := 15) P117.q d24_14 rfl rfl ?_
  refine W.g_iloadN (pc1 := 16) P117.q d24_15 rfl rfl ?_
  refine W.g_ishl (pc1 := 17) P117.q d24_16 rfl ?_
  rw [own_shl0]
  refine W.g_aloadN (pc1 := 18) P117.q d24_17 rfl rfl rfl ?_
  refine P117.getF (host := "") (pc1 := 21) (Or.inl (wd hw (k := 22) rfl)) Via.refl S0.2.1 d24_18 rfl ?_
  intro T118 P118
  refine P118.lenG (pc1 := 22) S0.2.2.2.1 d24_21 rfl ?_
  show W.Go p.tables e below _ (T118.setTop (mkF m 22 #[.val (.ref y), .val (.ref d), .val (.int (Int32.ofNat cnt)), .val (.int (0 : Int32))] [(.int (Int32.ofNat n)), (.int (Int32.ofNat cnt)), (.ref d), (.int (Int32.ofNat 0)), (.ref u)]))
  refine P118.copyB (pc1 := 25) (sp := 0) (dp := cnt) (q := n) (W := 0) (wd hw (k := 126) rfl) (wd hw (k := 129) rfl) (wd hw (k := 127) rfl) (wd hw (k := 128) rfl) S0.2.2.2.1 D0 (by omega) hc (Or.inl (List.mem_singleton.mpr rfl)) W.safe0 (by rw [hml]; rfl) (by decide) (Nat.le_of_eq rfl) (by decide) d24_22 rfl ?_
  intro T119 h119 P119 K119 G119
  refine W.g_goto (pc1 := 43) P119.q d24_25 (by decide) rfl ?_
  exact P119.retN hlk hret d24_43 (by decide) (by decide) ⟨rfl, P119.fr, P119.keep, G119⟩
set_option maxRecDepth 65536 in
set_option maxHeartbeats 40000000 in
theorem c_put (l : Launch) (Z : State) (a0 : Array Value) (hw : ∀ d ∈ tables_1, d.before a0 Z = true) (x t : Addr) (kb : ClassId) (cap cnt : Nat) (g : Nat → Int32) (y u : Addr) (ku : ClassId) (n : Nat) (f : Nat → Int32) (h0 : Heap) (B0 : Sb Z h0 x t kb cap cnt g) (S0 : Lt Z h0 y u ku n f) (hc : cnt + n ≤ cap) (EZ : Ext Z.heap h0) (zc : Int32) (fm : Value) (US : UST Z zc fm) : W.MetN l Z (⟨"java/lang/AbstractStringBuilder", "putStringAt", "(ILjava/lang/String;)V"⟩ : MethodName) jdk_68_method_73_code 3 ((Option.none : Option Jvm.ClassFile.FieldType)) [] ({ frames := 2, cells := 0, slots := 0, locals := 36 } : Room) #[.ref x, .int (Int32.ofNat cnt), .ref y]  h0 (QGB Z t kb cap (W.cpy (fun i => StrChars.lo8 (f i)) g 0 cnt n) h0) := by
  refine W.MetN.mk (ls0 := #[.val (.ref x), .val (.int (Int32.ofNat cnt)), .val (.ref y)]) [t] (plainFor_of_name pn_java_lang_AbstractStringBuilder) (fun m => by first | (simp [entryFrame, mkF, argsToLocals, Value.category]; done) | rfl) ?_
  intro p e s m below meth c s₁ hml hret hnm hlk P0
  show W.Go p.tables e below _ (s₁.setTop (mkF m 0 #[.val (.ref x), .val (.int (Int32.ofNat cnt)), .val (.ref y)] []))
  refine W.g_aloadN (pc1 := 1) P0.q d22_0 rfl rfl rfl ?_
  refine W.g_aloadN (pc1 := 2) P0.q d22_1 rfl rfl rfl ?_
  refine P0.callV (pc1 := 5) B0.1 (wd hw (k := 115) rfl) (W.declares_of (wd hw (k := 116) rfl) (wd hw (k := 119) rfl)) (wd hw (k := 118) rfl) (wd hw (k := 116) rfl) (notFace_of_selects (args := #[]) (mvT P0.hz (wd hw (k := 118) rfl))) (by decide) (W.MetN.pay (W := 0) (c_infl l Z a0 hw x t kb cap cnt g y u ku n f h0 B0 S0 EZ zc fm US) P0 (wd hw (k := 119) rfl) (wd hw (k := 72) rfl) (by decide) (by decide)) (argsL := [(.ref y)]) (st0 := []) (lenOf pd_Ljava_lang_String_R_V rfl) rfl rfl (Nat.le_of_eq rfl) (by rw [hml]; rfl) (by decide) (by decide) (W.Pure.ok P0.chv) d22_2 rfl ?_
  intro v120 T120 h120 L120 q120 P120
  obtain ⟨rfl, rfl, rfl⟩ := q120
  show W.Go p.tables e below _ (T120.setTop (mkF m 5 #[.val (.ref x), .val (.int (Int32.ofNat cnt)), .val (.ref y)] []))
  refine W.g_aloadN (pc1 := 6) P120.q d22_5 rfl rfl rfl ?_
  refine W.g_aloadN (pc1 := 7) P120.q d22_6 rfl rfl rfl ?_
  refine P120.getF (host := "") (pc1 := 10) (Or.inl (wd hw (k := 76) rfl)) Via.refl B0.2.1 d22_7 rfl ?_
  intro T121 P121
  refine W.g_iloadN (pc1 := 11) P121.q d22_10 rfl rfl ?_
  refine W.g_aloadN (pc1 := 12) P121.q d22_11 rfl rfl rfl ?_
  refine P121.getF (host := "") (pc1 := 15) (Or.inl (wd hw (k := 78) rfl)) Via.refl B0.2.2.1 d22_12 rfl ?_
  intro T122 P122
  refine P122.callV (pc1 := 18) S0.1 (wd hw (k := 121) rfl) (wd hw (k := 122) rfl) (wd hw (k := 124) rfl) (wd hw (k := 123) rfl) (notFace_of_selects (args := #[]) (mvT P122.hz (wd hw (k := 124) rfl))) (by decide) (W.MetN.pay (W := 0) (c_gb l Z a0 hw y u ku n f t kb cap cnt g h0 S0 B0.2.2.2.2.1 hc EZ zc fm US) P122 (wd hw (k := 125) rfl) (wd hw (k := 2) rfl) (by decide) (by decide)) (argsL := [(.ref t), (.int (Int32.ofNat cnt)), (.int (0 : Int32))]) (st0 := []) (lenOf pd_ABIB_R_V rfl) rfl rfl (Nat.le_of_eq rfl) (by rw [hml]; rfl) (by decide) (by decide) (fun _ _ _ q => ⟨q.2.1, CHr.keep q.2.2.1 (sfS W.safe0 sf0) P122.chv⟩) d22_15 rfl ?_
  intro v123 T123 h123 L123 q123 P123
  obtain ⟨rfl, f123, K123, G123⟩ := q123
  show W.Go p.tables e below _ (T123.setTop (mkF m 18 #[.val (.ref x), .val (.int (Int32.ofNat cnt)), .val (.ref y)] []))
  exact P123.retN hlk hret d22_18 (by decide) (by decide) ⟨rfl, P123.fr, P123.keep, G123⟩
set_option maxRecDepth 65536 in
set_option maxHeartbeats 40000000 in
theorem c_max (l : Launch) (Z : State) (a0 : Array Value) (hw : ∀ d ∈ tables_1, d.before a0 Z = true) (k n : Nat) (hk : k < 2147483648) (hn : n < 2147483648) (h0 : Heap) : W.MetN l Z (⟨"java/lang/Math", "max", "(II)I"⟩ : MethodName) jdk_29_method_65_code 2 ((Option.some Jvm.ClassFile.FieldType.int)) [] ({ frames := 0, cells := 0, slots := 0, locals := 0 } : Room) #[.int (Int32.ofNat k), .int (Int32.ofNat n)]  h0 (W.Pure (some (.int (Int32.ofNat (max k n)))) h0) := by
  refine W.MetN.mk (ls0 := #[.val (.int (Int32.ofNat k)), .val (.int (Int32.ofNat n))]) [] (Jvm.Free.JP.mathPlain rfl (by decide +kernel)) (fun m => by first | (simp [entryFrame, mkF, argsToLocals, Value.category]; done) | rfl) ?_
  intro p e s m below meth c s₁ hml hret hnm hlk P0
  show W.Go p.tables e below _ (s₁.setTop (mkF m 0 #[.val (.int (Int32.ofNat k)), .val (.int (Int32.ofNat n))] []))
  refine W.g_iloadN (pc1 := 1) P0.q d27_0 rfl rfl ?_
  refine W.g_iloadN (pc1 := 2) P0.q d27_1 rfl rfl ?_
  refine W.g_cmp (pc1 := 9) (pc2 := 5) P0.q d27_2 (by decide) rfl rfl (fun (hc : (Int32.ofNat k) < (Int32.ofNat n)) => ?_) (fun (hc : ¬ ((Int32.ofNat k) < (Int32.ofNat n))) => ?_)
  · refine W.g_iloadN (pc1 := 10) P0.q d27_9 rfl rfl ?_
    rw [W.lt32 hk hn] at hc
    exact P0.retIN hlk hret d27_10 (by decide) (by decide) ⟨by rw [Nat.max_eq_right (Nat.le_of_lt hc)], rfl, rfl⟩
  · refine W.g_iloadN (pc1 := 6) P0.q d27_5 rfl rfl ?_
    refine W.g_goto (pc1 := 10) P0.q d27_6 (by decide) rfl ?_
    rw [W.lt32 hk hn] at hc
    exact P0.retIN hlk hret d27_10 (by decide) (by decide) ⟨by rw [Nat.max_eq_left (Nat.le_of_not_lt hc)], rfl, rfl⟩
set_option maxRecDepth 65536 in
set_option maxHeartbeats 40000000 in
theorem c_nl (l : Launch) (Z : State) (a0 : Array Value) (hw : ∀ d ∈ tables_1, d.before a0 Z = true) (a k n : Nat) (ha : a + max k n < 1000000) (h0p : 0 < a + max k n) (h0 : Heap) : W.MetN l Z (⟨"jdk/internal/util/ArraysSupport", "newLength", "(III)I"⟩ : MethodName) jdk_48_method_27_code 4 ((Option.some Jvm.ClassFile.FieldType.int)) [] ({ frames := 1, cells := 0, slots := 0, locals := 14 } : Room) #[.int (Int32.ofNat a), .int (Int32.ofNat k), .int (Int32.ofNat n)]  h0 (W.Pure (some (.int (Int32.ofNat (a + max k n)))) h0) := by
  refine W.MetN.mk (ls0 := #[.val (.int (Int32.ofNat a)), .val (.int (Int32.ofNat k)), .val (.int (Int32.ofNat n)), .unset]) [] (plainFor_of_name pn_jdk_internal_util_ArraysSupport) (fun m => by first | (simp [entryFrame, mkF, argsToLocals, Value.category]; done) | rfl) ?_
  intro p e s m below meth c s₁ hml hret hnm hlk P0
  show W.Go p.tables e below _ (s₁.setTop (mkF m 0 #[.val (.int (Int32.ofNat a)), .val (.int (Int32.ofNat k)), .val (.int (Int32.ofNat n)), .unset] []))
  refine W.g_iloadN (pc1 := 1) P0.q d26_0 rfl rfl ?_
  refine W.g_iloadN (pc1 := 2) P0.q d26_1 rfl rfl ?_
  refine W.g_iloadN (pc1 := 3) P0.q d26_2 rfl rfl ?_
  refine P0.callS (pc1 := 6) (wd hw (k := 142) rfl) (wd hw (k := 143) rfl) (wd hw (k := 144) rfl) (wd hw (k := 145) rfl) (by decide) (W.MetN.pay (W := 1) (c_max l Z a0 hw k n (by omega) (by omega) h0) P0 (wd hw (k := 145) rfl) (wd hw (k := 144) rfl) (by decide) (by decide)) (argsL := [(.int (Int32.ofNat k)), (.int (Int32.ofNat n))]) (st0 := [(.int (Int32.ofNat a))]) (lenOf pd_II_R_I rfl) rfl rfl (Nat.le_of_eq rfl) (by rw [hml]; rfl) (by decide) (by decide) (W.Pure.ok P0.chv) d26_3 rfl ?_
  intro v124 T124 h124 L124 q124 P124
  obtain ⟨rfl, rfl, rfl⟩ := q124
  show W.Go p.tables e below _ (T124.setTop (mkF m 6 #[.val (.int (Int32.ofNat a)), .val (.int (Int32.ofNat k)), .val (.int (Int32.ofNat n)), .unset] [(.int (Int32.ofNat (max k n))), (.int (Int32.ofNat a))]))
  refine W.g_iadd (pc1 := 7) P124.q d26_6 rfl ?_
  rw [own_add]
  show W.Go p.tables e below _ (T124.setTop (mkF m 7 #[.val (.int (Int32.ofNat a)), .val (.int (Int32.ofNat k)), .val (.int (Int32.ofNat n)), .unset] [(.int (Int32.ofNat (a + max k n)))]))
  refine W.g_istoreN (pc1 := 8) (ls2 := #[.val (.int (Int32.ofNat a)), .val (.int (Int32.ofNat k)), .val (.int (Int32.ofNat n)), .val (.int (Int32.ofNat (a + max k n)))]) P124.q d26_7 rfl rfl ?_
  refine W.g_iconst (pc1 := 9) (v := (0 : Int32)) P124.q d26_8 (by decide) rfl ?_
  refine W.g_iloadN (pc1 := 10) P124.q d26_9 rfl rfl ?_
  refine W.g_cmpN (pc2 := 13) P124.q d26_10 rfl (fun q => q ((W.lt32 (i := 0) (by decide) (by omega)).mpr h0p)) ?_
  refine W.g_iloadN (pc1 := 14) P124.q d26_13 rfl rfl ?_
  refine P124.ldcI (pc1 := 16) (wd hw (k := 146) rfl) d26_14 rfl ?_
  refine W.g_cmpN (pc2 := 19) P124.q d26_16 rfl (fun q => absurd ((W.lt32 (i := 2147483639) (by decide) (by omega)).mp q) (by omega)) ?_
  refine W.g_iloadN (pc1 := 20) P124.q d26_19 rfl rfl ?_
  exact P124.retIN hlk hret d26_20 (by decide) (by decide) ⟨rfl, rfl, rfl⟩
theorem own_subN {a b : Nat} (h : b ≤ a) (ha : a < 2147483648) : Int32.ofNat a - Int32.ofNat b = Int32.ofNat (a - b) := by
  apply Int32.toInt_inj.mp
  rw [Int32.toInt_sub, W.i32 ha, W.i32 (by omega), W.i32 (by omega), Int.bmod_eq_of_le (by omega) (by omega)]; omega
theorem own_two : (2 : Int32) <<< ((0 : Int32) &&& 31) = Int32.ofNat 2 := by decide
set_option maxRecDepth 65536 in
set_option maxHeartbeats 40000000 in
theorem c_ncap (l : Launch) (Z : State) (a0 : Array Value) (hw : ∀ d ∈ tables_1, d.before a0 Z = true) (x t : Addr) (kb : ClassId) (cap cnt : Nat) (g : Nat → Int32) (h0 : Heap) (B0 : Sb Z h0 x t kb cap cnt g) (mn : Nat) (hm : cap < mn) (hm2 : mn < 100000) : W.MetN l Z (⟨"java/lang/AbstractStringBuilder", "newCapacity", "(I)I"⟩ : MethodName) jdk_68_method_10_code 6 ((Option.some Jvm.ClassFile.FieldType.int)) [] ({ frames := 2, cells := 0, slots := 0, locals := 30 } : Room) #[.ref x, .int (Int32.ofNat mn)]  h0 (W.Pure (some (.int (Int32.ofNat (cap + max (mn - cap) (cap + 2))))) h0) := by
  refine W.MetN.mk (ls0 := #[.val (.ref x), .val (.int (Int32.ofNat mn)), .unset, .unset, .unset, .unset]) [] (plainFor_of_name pn_java_lang_AbstractStringBuilder) (fun m => by first | (simp [entryFrame, mkF, argsToLocals, Value.category]; done) | rfl) ?_
  intro p e s m below meth c s₁ hml hret hnm hlk P0
  show W.Go p.tables e below _ (s₁.setTop (mkF m 0 #[.val (.ref x), .val (.int (Int32.ofNat mn)), .unset, .unset, .unset, .unset] []))
  refine W.g_aloadN (pc1 := 1) P0.q d25_0 rfl rfl rfl ?_
  refine P0.getF (host := "") (pc1 := 4) (Or.inl (wd hw (k := 76) rfl)) Via.refl B0.2.1 d25_1 rfl ?_
  intro T125 P125
  refine P125.lenG (pc1 := 5) B0.2.2.2.2.1 d25_4 rfl ?_
  refine W.g_istoreN (pc1 := 6) (ls2 := #[.val (.ref x), .val (.int (Int32.ofNat mn)), .val (.int (Int32.ofNat cap)), .unset, .unset, .unset]) P125.q d25_5 rfl rfl ?_
  refine W.g_iloadN (pc1 := 7) P125.q d25_6 rfl rfl ?_
  refine W.g_aloadN (pc1 := 8) P125.q d25_7 rfl rfl rfl ?_
  refine P125.getF (host := "") (pc1 := 11) (Or.inl (wd hw (k := 78) rfl)) Via.refl B0.2.2.1 d25_8 rfl ?_
  intro T126 P126
  refine W.g_ishl (pc1 := 12) P126.q d25_11 rfl ?_
  rw [own_shl0]
  refine W.g_istoreN (pc1 := 13) (ls2 := #[.val (.ref x), .val (.int (Int32.ofNat mn)), .val (.int (Int32.ofNat cap)), .val (.int (Int32.ofNat mn)), .unset, .unset]) P126.q d25_12 rfl rfl ?_
  refine W.g_iloadN (pc1 := 14) P126.q d25_13 rfl rfl ?_
  refine W.g_iloadN (pc1 := 15) P126.q d25_14 rfl rfl ?_
  refine W.g_isub (pc1 := 16) P126.q d25_15 rfl ?_
  rw [own_subN (Nat.le_of_lt hm) (by omega)]
  show W.Go p.tables e below _ (T126.setTop (mkF m 16 #[.val (.ref x), .val (.int (Int32.ofNat mn)), .val (.int (Int32.ofNat cap)), .val (.int (Int32.ofNat mn)), .unset, .unset] [(.int (Int32.ofNat (mn - cap)))]))
  refine W.g_istore (pc1 := 18) (ls2 := #[.val (.ref x), .val (.int (Int32.ofNat mn)), .val (.int (Int32.ofNat cap)), .val (.int (Int32.ofNat mn)), .val (.int (Int32.ofNat (mn - cap))), .unset]) P126.q d25_16 rfl rfl ?_
  refine W.g_iloadN (pc1 := 19) P126.q d25_18 rfl rfl ?_
  refine W.g_iload (pc1 := 21) P126.q d25_19 rfl rfl ?_
  refine W.g_iloadN (pc1 := 22) P126.q d25_21 rfl rfl ?_
  refine W.g_iconst (pc1 := 23) (v := (2 : Int32)) P126.q d25_22 (by decide) rfl ?_
  refine W.g_aloadN (pc1 := 24) P126.q d25_23 rfl rfl rfl ?_
  refine P126.getF (host := "") (pc1 := 27) (Or.inl (wd hw (k := 78) rfl)) Via.refl B0.2.2.1 d25_24 rfl ?_
  intro T127 P127
  refine W.g_ishl (pc1 := 28) P127.q d25_27 rfl ?_
  rw [own_two]
  refine W.g_iadd (pc1 := 29) P127.q d25_28 rfl ?_
  rw [own_add]
  show W.Go p.tables e below _ (T127.setTop (mkF m 29 #[.val (.ref x), .val (.int (Int32.ofNat mn)), .val (.int (Int32.ofNat cap)), .val (.int (Int32.ofNat mn)), .val (.int (Int32.ofNat (mn - cap))), .unset] [(.int (Int32.ofNat (cap + 2))), (.int (Int32.ofNat (mn - cap))), (.int (Int32.ofNat cap))]))
  refine P127.callS (pc1 := 32) (wd hw (k := 138) rfl) (wd hw (k := 139) rfl) (wd hw (k := 140) rfl) (wd hw (k := 141) rfl) (by decide) (W.MetN.pay (W := 0) (c_nl l Z a0 hw cap (mn - cap) (cap + 2) (by omega) (by omega) h0) P127 (wd hw (k := 141) rfl) (wd hw (k := 140) rfl) (by decide) (by decide)) (argsL := [(.int (Int32.ofNat cap)), (.int (Int32.ofNat (mn - cap))), (.int (Int32.ofNat (cap + 2)))]) (st0 := []) (lenOf pd_III_R_I rfl) rfl rfl (Nat.le_of_eq rfl) (by rw [hml]; rfl) (by decide) (by decide) (W.Pure.ok P127.chv) d25_29 rfl ?_
  intro v128 T128 h128 L128 q128 P128
  obtain ⟨rfl, rfl, rfl⟩ := q128
  show W.Go p.tables e below _ (T128.setTop (mkF m 32 #[.val (.ref x), .val (.int (Int32.ofNat mn)), .val (.int (Int32.ofNat cap)), .val (.int (Int32.ofNat mn)), .val (.int (Int32.ofNat (mn - cap))), .unset] [(.int (Int32.ofNat (cap + max (mn - cap) (cap + 2))))]))
  refine W.g_istore (pc1 := 34) (ls2 := #[.val (.ref x), .val (.int (Int32.ofNat mn)), .val (.int (Int32.ofNat cap)), .val (.int (Int32.ofNat mn)), .val (.int (Int32.ofNat (mn - cap))), .val (.int (Int32.ofNat (cap + max (mn - cap) (cap + 2))))]) P128.q d25_32 rfl rfl ?_
  refine W.g_iload (pc1 := 36) P128.q d25_34 rfl rfl ?_
  refine P128.ldcI (pc1 := 38) (wd hw (k := 147) rfl) d25_36 rfl ?_
  refine W.g_cmpY (pc1 := 51) P128.q d25_38 (by decide) rfl (fun q => absurd ((W.eq32 (n := 2147483647) (by omega) (by decide)).mp q) (by omega)) ?_
  refine W.g_iload (pc1 := 53) P128.q d25_51 rfl rfl ?_
  refine W.g_aloadN (pc1 := 54) P128.q d25_53 rfl rfl rfl ?_
  refine P128.getF (host := "") (pc1 := 57) (Or.inl (wd hw (k := 78) rfl)) Via.refl B0.2.2.1 d25_54 rfl ?_
  intro T129 P129
  refine W.g_ishr (pc1 := 58) P129.q d25_57 rfl ?_
  rw [own_shr0]
  exact P129.retIN hlk hret d25_58 (by decide) (by decide) ⟨rfl, rfl, rfl⟩
set_option maxRecDepth 65536 in
set_option maxHeartbeats 40000000 in
theorem c_min (l : Launch) (Z : State) (a0 : Array Value) (hw : ∀ d ∈ tables_1, d.before a0 Z = true) (k n : Nat) (hk : k < 2147483648) (hn : n < 2147483648) (h0 : Heap) : W.MetN l Z (⟨"java/lang/Math", "min", "(II)I"⟩ : MethodName) jdk_29_method_69_code 2 ((Option.some Jvm.ClassFile.FieldType.int)) [] ({ frames := 0, cells := 0, slots := 0, locals := 0 } : Room) #[.int (Int32.ofNat k), .int (Int32.ofNat n)]  h0 (W.Pure (some (.int (Int32.ofNat (min k n)))) h0) := by
  refine W.MetN.mk (ls0 := #[.val (.int (Int32.ofNat k)), .val (.int (Int32.ofNat n))]) [] (Jvm.Free.JP.mathPlain rfl (by decide +kernel)) (fun m => by first | (simp [entryFrame, mkF, argsToLocals, Value.category]; done) | rfl) ?_
  intro p e s m below meth c s₁ hml hret hnm hlk P0
  show W.Go p.tables e below _ (s₁.setTop (mkF m 0 #[.val (.int (Int32.ofNat k)), .val (.int (Int32.ofNat n))] []))
  refine W.g_iloadN (pc1 := 1) P0.q d29_0 rfl rfl ?_
  refine W.g_iloadN (pc1 := 2) P0.q d29_1 rfl rfl ?_
  refine W.g_cmp (pc1 := 9) (pc2 := 5) P0.q d29_2 (by decide) rfl rfl (fun (hc : (Int32.ofNat n) < (Int32.ofNat k)) => ?_) (fun (hc : ¬ ((Int32.ofNat n) < (Int32.ofNat k))) => ?_)
  · refine W.g_iloadN (pc1 := 10) P0.q d29_9 rfl rfl ?_
    rw [W.lt32 hn hk] at hc
    exact P0.retIN hlk hret d29_10 (by decide) (by decide) ⟨by rw [Nat.min_eq_right (Nat.le_of_lt hc)], rfl, rfl⟩
  · refine W.g_iloadN (pc1 := 6) P0.q d29_5 rfl rfl ?_
    refine W.g_goto (pc1 := 10) P0.q d29_6 (by decide) rfl ?_
    rw [W.lt32 hn hk] at hc
    exact P0.retIN hlk hret d29_10 (by decide) (by decide) ⟨by rw [Nat.min_eq_left (Nat.le_of_not_lt hc)], rfl, rfl⟩
def QCO (Z : State) (n : Nat) (g : Nat → Int32) (h0 : Heap) (v : Option Value) (h : Heap) (L : List Loc) : Prop := ∃ a k, v = some (.ref a) ∧ W.Frw [] h0.size L ∧ Ext h0 h ∧ h0.size ≤ a ∧ W.Arg Z h a k .byte n g ∧ Exa Z h a "[B"
set_option maxRecDepth 65536 in
set_option maxHeartbeats 40000000 in
theorem c_cpo (l : Launch) (Z : State) (a0 : Array Value) (hw : ∀ d ∈ tables_1, d.before a0 Z = true) (t : Addr) (kb : ClassId) (cap n : Nat) (g : Nat → Int32) (hn : cap < n) (hx : n ≤ 136) (h0 : Heap) (A0 : W.Arg Z h0 t kb .byte cap g) : W.MetN l Z (⟨"java/util/Arrays", "copyOf", "([BI)[B"⟩ : MethodName) jdk_65_method_121_code 3 ((Option.some (Jvm.ClassFile.FieldType.array Jvm.ClassFile.FieldType.byte))) [] ({ frames := 1, cells := 1, slots := 136, locals := 24 } : Room) #[.ref t, .int (Int32.ofNat n)]  h0 (QCO Z n (W.cpy g (fun _ => 0) 0 0 cap) h0) := by
  refine W.MetN.mk (ls0 := #[.val (.ref t), .val (.int (Int32.ofNat n)), .unset]) [] (plainFor_of_name pn_java_util_Arrays) (fun m => by first | (simp [entryFrame, mkF, argsToLocals, Value.category]; done) | rfl) ?_
  intro p e s m below meth c s₁ hml hret hnm hlk P0
  show W.Go p.tables e below _ (s₁.setTop (mkF m 0 #[.val (.ref t), .val (.int (Int32.ofNat n)), .unset] []))
  refine W.g_iloadN (pc1 := 1) P0.q d28_0 rfl rfl ?_
  refine W.g_aloadN (pc1 := 2) P0.q d28_1 rfl rfl rfl ?_
  refine P0.lenG (pc1 := 3) A0 d28_2 rfl ?_
  refine W.g_cmpY (pc1 := 14) P0.q d28_3 (by decide) rfl (fun q => absurd ((W.eq32 (by omega) (by omega)).mp q) (by omega)) ?_
  refine W.g_iloadN (pc1 := 15) P0.q d28_14 rfl rfl ?_
  refine P0.newPE (pc1 := 17) (cap := 136) (ad := "[B") (wd hw (k := 14) rfl) (by decide) (W.nn32 (by omega)) (by rw [W.n32 (by omega)]; exact hx) (by decide) (by decide) (by decide) d28_15 rfl ?_
  intro T130 h130 x130 k130 g130 P130 E130 V130 Y130
  have G0 : W.Arg Z h130 x130 k130 .byte n (fun _ => 0) := W.Arg.new (by omega) V130
  have A1 := A0.ext E130
  refine W.g_astoreN (pc1 := 18) (ls2 := #[.val (.ref t), .val (.int (Int32.ofNat n)), .val (.ref x130)]) P130.q d28_17 rfl rfl rfl ?_
  refine W.g_aloadN (pc1 := 19) P130.q d28_18 rfl rfl rfl ?_
  refine W.g_iconst (pc1 := 20) (v := (0 : Int32)) P130.q d28_19 (by decide) rfl ?_
  refine W.g_aloadN (pc1 := 21) P130.q d28_20 rfl rfl rfl ?_
  refine W.g_iconst (pc1 := 22) (v := (0 : Int32)) P130.q d28_21 (by decide) rfl ?_
  refine W.g_aloadN (pc1 := 23) P130.q d28_22 rfl rfl rfl ?_
  refine P130.lenG (pc1 := 24) A1 d28_23 rfl ?_
  refine W.g_iloadN (pc1 := 25) P130.q d28_24 rfl rfl ?_
  refine P130.callS (pc1 := 28) (wd hw (k := 152) rfl) (wd hw (k := 153) rfl) (wd hw (k := 144) rfl) (wd hw (k := 154) rfl) (by decide) (W.MetN.pay (W := 4) (c_min l Z a0 hw cap n (by omega) (by omega) h130) P130 (wd hw (k := 154) rfl) (wd hw (k := 144) rfl) (by decide) (by decide)) (argsL := [(.int (Int32.ofNat cap)), (.int (Int32.ofNat n))]) (st0 := [(.int (0 : Int32)), (.ref x130), (.int (0 : Int32)), (.ref t)]) (lenOf pd_II_R_I rfl) rfl rfl (Nat.le_of_eq rfl) (by rw [hml]; rfl) (by decide) (by decide) (W.Pure.ok P130.chv) d28_25 rfl ?_
  intro v131 T131 h131 L131 q131 P131
  obtain ⟨rfl, rfl, rfl⟩ := q131
  show W.Go p.tables e below _ (T131.setTop (mkF m 28 #[.val (.ref t), .val (.int (Int32.ofNat n)), .val (.ref x130)] [(.int (Int32.ofNat (min cap n))), (.int (0 : Int32)), (.ref x130), (.int (0 : Int32)), (.ref t)]))
  rw [Nat.min_eq_left (Nat.le_of_lt hn)]
  show W.Go p.tables e below _ (T131.setTop (mkF m 28 #[.val (.ref t), .val (.int (Int32.ofNat n)), .val (.ref x130)] [(.int (Int32.ofNat cap)), (.int (Int32.ofNat 0)), (.ref x130), (.int (Int32.ofNat 0)), (.ref t)]))
  refine P131.copyB (pc1 := 31) (sp := 0) (dp := 0) (q := cap) (W := 0) (wd hw (k := 155) rfl) (wd hw (k := 129) rfl) (wd hw (k := 127) rfl) (wd hw (k := 128) rfl) A1 G0 (by omega) (by omega) (Or.inr (Nat.le_of_eq g130.symm)) W.safe0 (by rw [hml]; rfl) (by decide) (Nat.le_of_eq rfl) (by decide) d28_28 rfl ?_
  intro T132 h132 P132 K132 G132
  refine W.g_aloadN (pc1 := 32) P132.q d28_31 rfl rfl rfl ?_
  exact P132.retAN hlk hret rfl rfl rfl d28_32 (by decide) (by decide) ⟨x130, k130, rfl, P132.fr, P132.ext0, Nat.le_of_eq g130.symm, G132, Y130.keep K132⟩
def QEG (Z : State) (x : Addr) (cap cnt : Nat) (g : Nat → Int32) (h0 : Heap) (v : Option Value) (h : Heap) (L : List Loc) : Prop := v = none ∧ W.Frw [x] h0.size L ∧ Keep h0 h [x] ∧ ∃ t kb, h0.size ≤ t ∧ Sb Z h x t kb cap cnt g
set_option maxRecDepth 65536 in
set_option maxHeartbeats 40000000 in
theorem c_eng (l : Launch) (Z : State) (a0 : Array Value) (hw : ∀ d ∈ tables_1, d.before a0 Z = true) (x t : Addr) (kb : ClassId) (cap cnt : Nat) (g : Nat → Int32) (h0 : Heap) (B0 : Sb Z h0 x t kb cap cnt g) (mn cap2 : Nat) (hm : cap < mn) (h2 : cap2 = cap + max (mn - cap) (cap + 2)) (hx : cap2 ≤ 136) : W.MetN l Z (⟨"java/lang/AbstractStringBuilder", "ensureCapacityInternal", "(I)V"⟩ : MethodName) jdk_68_method_9_code 3 ((Option.none : Option Jvm.ClassFile.FieldType)) [] ({ frames := 3, cells := 1, slots := 136, locals := 50 } : Room) #[.ref x, .int (Int32.ofNat mn)]  h0 (QEG Z x cap2 cnt (W.cpy g (fun _ => 0) 0 0 cap) h0) := by
  refine W.MetN.mk (ls0 := #[.val (.ref x), .val (.int (Int32.ofNat mn)), .unset]) [x] (plainFor_of_name pn_java_lang_AbstractStringBuilder) (fun m => by first | (simp [entryFrame, mkF, argsToLocals, Value.category]; done) | rfl) ?_
  intro p e s m below meth c s₁ hml hret hnm hlk P0
  show W.Go p.tables e below _ (s₁.setTop (mkF m 0 #[.val (.ref x), .val (.int (Int32.ofNat mn)), .unset] []))
  refine W.g_aloadN (pc1 := 1) P0.q d21_0 rfl rfl rfl ?_
  refine P0.getF (host := "") (pc1 := 4) (Or.inl (wd hw (k := 76) rfl)) Via.refl B0.2.1 d21_1 rfl ?_
  intro T133 P133
  refine P133.lenG (pc1 := 5) B0.2.2.2.2.1 d21_4 rfl ?_
  refine W.g_aloadN (pc1 := 6) P133.q d21_5 rfl rfl rfl ?_
  refine P133.getF (host := "") (pc1 := 9) (Or.inl (wd hw (k := 78) rfl)) Via.refl B0.2.2.1 d21_6 rfl ?_
  intro T134 P134
  refine W.g_ishr (pc1 := 10) P134.q d21_9 rfl ?_
  rw [own_shr0]
  refine W.g_istoreN (pc1 := 11) (ls2 := #[.val (.ref x), .val (.int (Int32.ofNat mn)), .val (.int (Int32.ofNat cap))]) P134.q d21_10 rfl rfl ?_
  refine W.g_iloadN (pc1 := 12) P134.q d21_11 rfl rfl ?_
  refine W.g_iloadN (pc1 := 13) P134.q d21_12 rfl rfl ?_
  refine W.g_isub (pc1 := 14) P134.q d21_13 rfl ?_
  rw [own_subN (Nat.le_of_lt hm) (by omega)]
  show W.Go p.tables e below _ (T134.setTop (mkF m 14 #[.val (.ref x), .val (.int (Int32.ofNat mn)), .val (.int (Int32.ofNat cap))] [(.int (Int32.ofNat (mn - cap)))]))
  refine W.g_ifN (pc2 := 17) P134.q d21_14 rfl (fun q => q ((W.lt32 (i := 0) (by decide) (by omega)).mpr (by omega))) ?_
  refine W.g_aloadN (pc1 := 18) P134.q d21_17 rfl rfl rfl ?_
  refine W.g_aloadN (pc1 := 19) P134.q d21_18 rfl rfl rfl ?_
  refine P134.getF (host := "") (pc1 := 22) (Or.inl (wd hw (k := 76) rfl)) Via.refl B0.2.1 d21_19 rfl ?_
  intro T135 P135
  refine W.g_aloadN (pc1 := 23) P135.q d21_22 rfl rfl rfl ?_
  refine W.g_iloadN (pc1 := 24) P135.q d21_23 rfl rfl ?_
  refine P135.callV (pc1 := 27) B0.1 (wd hw (k := 133) rfl) (W.declares_of (wd hw (k := 134) rfl) (wd hw (k := 137) rfl)) (wd hw (k := 136) rfl) (wd hw (k := 134) rfl) (notFace_of_selects (args := #[]) (mvT P135.hz (wd hw (k := 136) rfl))) (by decide) (W.MetN.pay (W := 2) (c_ncap l Z a0 hw x t kb cap cnt g h0 B0 mn hm (by omega)) P135 (wd hw (k := 137) rfl) (wd hw (k := 72) rfl) (by decide) (by decide)) (argsL := [(.int (Int32.ofNat mn))]) (st0 := [(.ref t), (.ref x)]) (lenOf pd_I_R_I rfl) rfl rfl (Nat.le_of_eq rfl) (by rw [hml]; rfl) (by decide) (by decide) (W.Pure.ok P135.chv) d21_24 rfl ?_
  intro v136 T136 h136 L136 q136 P136
  obtain ⟨rfl, rfl, rfl⟩ := q136
  show W.Go p.tables e below _ (T136.setTop (mkF m 27 #[.val (.ref x), .val (.int (Int32.ofNat mn)), .val (.int (Int32.ofNat cap))] [(.int (Int32.ofNat (cap + max (mn - cap) (cap + 2)))), (.ref t), (.ref x)]))
  rw [← h2]
  show W.Go p.tables e below _ (T136.setTop (mkF m 27 #[.val (.ref x), .val (.int (Int32.ofNat mn)), .val (.int (Int32.ofNat cap))] [(.int (Int32.ofNat cap2)), (.ref t), (.ref x)]))
  refine W.g_aloadN (pc1 := 28) P136.q d21_27 rfl rfl rfl ?_
  refine P136.getF (host := "") (pc1 := 31) (Or.inl (wd hw (k := 78) rfl)) Via.refl B0.2.2.1 d21_28 rfl ?_
  intro T137 P137
  refine W.g_ishl (pc1 := 32) P137.q d21_31 rfl ?_
  rw [own_shl0]
  show W.Go p.tables e below _ (T137.setTop (mkF m 32 #[.val (.ref x), .val (.int (Int32.ofNat mn)), .val (.int (Int32.ofNat cap))] [(.int (Int32.ofNat cap2)), (.ref t), (.ref x)]))
  refine P137.callS (pc1 := 35) (wd hw (k := 148) rfl) (wd hw (k := 149) rfl) (wd hw (k := 150) rfl) (wd hw (k := 151) rfl) (by decide) (W.MetN.pay (W := 1) (c_cpo l Z a0 hw t kb cap cap2 g (by omega) hx h0 B0.2.2.2.2.1) P137 (wd hw (k := 151) rfl) (wd hw (k := 150) rfl) (by decide) (by decide)) (argsL := [(.ref t), (.int (Int32.ofNat cap2))]) (st0 := [(.ref x)]) (lenOf pd_ABI_R_AB rfl) rfl rfl (Nat.le_of_eq rfl) (by rw [hml]; rfl) (by decide) (by decide) (fun _ _ _ q => by obtain ⟨_, _, _, q2, q3, _⟩ := q; exact ⟨q2.up P137.sz all0, CHr.ext q3 P137.chv⟩) d21_32 rfl ?_
  intro v138 T138 h138 L138 q138 P138
  obtain ⟨a138, k138, rfl, f138, E138, n138, G138, Y138⟩ := q138
  show W.Go p.tables e below _ (T138.setTop (mkF m 35 #[.val (.ref x), .val (.int (Int32.ofNat mn)), .val (.int (Int32.ofNat cap))] [(.ref a138), (.ref x)]))
  have Bn := B0.ext E138
  have hax : a138 ≠ x := Ne.symm (Nat.ne_of_lt (Nat.lt_of_lt_of_le B0.1.lt n138))
  refine P138.putF (host := "") (pc1 := 38) (Or.inl (wd hw (k := 76) rfl)) Via.refl Bn.2.1 Bn.1 (Or.inl (wd hw (k := 77) rfl)) (wd hw (k := 63) rfl) (ty := (.array .byte)) (by decide) rfl rfl (Or.inl (List.mem_singleton.mpr rfl)) W.safe0 d21_35 rfl ?_
  intro T139 h139 P139 W139
  exact P139.retN hlk hret d21_38 (by decide) (by decide) ⟨rfl, P139.fr, P139.keep, a138, k138, n138, Bn.1.wr W139, Bn.2.1.same W139, Bn.2.2.1.other W139 (Or.inr (slot_ne (t := .byte) (t' := .array .byte) (Or.inl (wd hw (k := 79) rfl)) (Or.inl (wd hw (k := 77) rfl)) (by decide) (by decide) (by decide))), Bn.2.2.2.1.other W139 (Or.inr (slot_ne (t := .int) (t' := .array .byte) (Or.inl (wd hw (k := 104) rfl)) (Or.inl (wd hw (k := 77) rfl)) (by decide) (by decide) (by decide))), G138.other W139 hax, Y138.wr W139⟩
def QAP (Z : State) (x t : Addr) (kb : ClassId) (cap cnt : Nat) (g : Nat → Int32) (h0 : Heap) (v : Option Value) (h : Heap) (L : List Loc) : Prop := v = some (.ref x) ∧ W.Frw [x, t] h0.size L ∧ Keep h0 h [x, t] ∧ Sb Z h x t kb cap cnt g
set_option maxRecDepth 65536 in
set_option maxHeartbeats 40000000 in
theorem c_app (l : Launch) (Z : State) (a0 : Array Value) (hw : ∀ d ∈ tables_1, d.before a0 Z = true) (x t : Addr) (kb : ClassId) (cap cnt : Nat) (g : Nat → Int32) (y u : Addr) (ku : ClassId) (n : Nat) (f : Nat → Int32) (h0 : Heap) (B0 : Sb Z h0 x t kb cap cnt g) (S0 : Lt Z h0 y u ku n f) (hc : cnt + n ≤ cap) (EZ : Ext Z.heap h0) (zc : Int32) (fm : Value) (US : UST Z zc fm) : W.MetN l Z (⟨"java/lang/AbstractStringBuilder", "append", "(Ljava/lang/String;)Ljava/lang/AbstractStringBuilder;"⟩ : MethodName) jdk_68_method_22_code 3 ((Option.some (Jvm.ClassFile.FieldType.object "java/lang/AbstractStringBuilder"))) [] ({ frames := 3, cells := 0, slots := 0, locals := 52 } : Room) #[.ref x, .ref y]  h0 (QAP Z x t kb cap (cnt + n) (W.cpy (fun i => StrChars.lo8 (f i)) g 0 cnt n) h0) := by
  refine W.MetN.mk (ls0 := #[.val (.ref x), .val (.ref y), .unset]) [x, t] (plainFor_of_name pn_java_lang_AbstractStringBuilder) (fun m => by first | (simp [entryFrame, mkF, argsToLocals, Value.category]; done) | rfl) ?_
  intro p e s m below meth c s₁ hml hret hnm hlk P0
  show W.Go p.tables e below _ (s₁.setTop (mkF m 0 #[.val (.ref x), .val (.ref y), .unset] []))
  have hxt : x ≠ t := by obtain ⟨vs, V, -⟩ := B0.2.2.2.2.1; exact Exa.neArv B0.1 V (wd hw (k := 63) rfl)
  refine W.g_aloadN (pc1 := 1) P0.q d18_0 rfl rfl rfl ?_
  refine W.g_nonY (pc1 := 9) P0.q d18_1 (by decide) rfl ?_
  refine W.g_aloadN (pc1 := 10) P0.q d18_9 rfl rfl rfl ?_
  refine P0.callV (pc1 := 13) S0.1 (wd hw (k := 93) rfl) (wd hw (k := 94) rfl) (wd hw (k := 96) rfl) (wd hw (k := 95) rfl) (notFace_of_selects (args := #[]) (mvT P0.hz (wd hw (k := 96) rfl))) (by decide) (W.MetN.pay (W := 0) (c_len l Z a0 hw y u ku n f h0 S0 EZ zc fm US) P0 (wd hw (k := 97) rfl) (wd hw (k := 2) rfl) (by decide) (by decide)) (argsL := []) (st0 := []) (lenOf pd__R_I rfl) rfl rfl (Nat.le_of_eq rfl) (by rw [hml]; rfl) (by decide) (by decide) (W.Pure.ok P0.chv) d18_10 rfl ?_
  intro v140 T140 h140 L140 q140 P140
  obtain ⟨rfl, rfl, rfl⟩ := q140
  show W.Go p.tables e below _ (T140.setTop (mkF m 13 #[.val (.ref x), .val (.ref y), .unset] [(.int (Int32.ofNat n))]))
  refine W.g_istoreN (pc1 := 14) (ls2 := #[.val (.ref x), .val (.ref y), .val (.int (Int32.ofNat n))]) P140.q d18_13 rfl rfl ?_
  refine W.g_aloadN (pc1 := 15) P140.q d18_14 rfl rfl rfl ?_
  refine W.g_aloadN (pc1 := 16) P140.q d18_15 rfl rfl rfl ?_
  refine P140.getF (host := "") (pc1 := 19) (Or.inl (wd hw (k := 103) rfl)) Via.refl B0.2.2.2.1 d18_16 rfl ?_
  intro T141 P141
  refine W.g_iloadN (pc1 := 20) P141.q d18_19 rfl rfl ?_
  refine W.g_iadd (pc1 := 21) P141.q d18_20 rfl ?_
  rw [own_add]
  show W.Go p.tables e below _ (T141.setTop (mkF m 21 #[.val (.ref x), .val (.ref y), .val (.int (Int32.ofNat n))] [(.int (Int32.ofNat (cnt + n))), (.ref x)]))
  refine P141.callV (pc1 := 24) B0.1 (wd hw (k := 105) rfl) (W.declares_of (wd hw (k := 106) rfl) (wd hw (k := 109) rfl)) (wd hw (k := 108) rfl) (wd hw (k := 106) rfl) (notFace_of_selects (args := #[]) (mvT P141.hz (wd hw (k := 108) rfl))) (by decide) (W.MetN.pay (W := 0) (c_ens l Z a0 hw x t kb cap cnt g h0 B0 (cnt + n) hc) P141 (wd hw (k := 109) rfl) (wd hw (k := 72) rfl) (by decide) (by decide)) (argsL := [(.int (Int32.ofNat (cnt + n)))]) (st0 := []) (lenOf pd_I_R_V rfl) rfl rfl (Nat.le_of_eq rfl) (by rw [hml]; rfl) (by decide) (by decide) (W.Pure.ok P141.chv) d18_21 rfl ?_
  intro v142 T142 h142 L142 q142 P142
  obtain ⟨rfl, rfl, rfl⟩ := q142
  show W.Go p.tables e below _ (T142.setTop (mkF m 24 #[.val (.ref x), .val (.ref y), .val (.int (Int32.ofNat n))] []))
  refine W.g_aloadN (pc1 := 25) P142.q d18_24 rfl rfl rfl ?_
  refine W.g_aloadN (pc1 := 26) P142.q d18_25 rfl rfl rfl ?_
  refine P142.getF (host := "") (pc1 := 29) (Or.inl (wd hw (k := 103) rfl)) Via.refl B0.2.2.2.1 d18_26 rfl ?_
  intro T143 P143
  refine W.g_aloadN (pc1 := 30) P143.q d18_29 rfl rfl rfl ?_
  refine P143.callV (pc1 := 33) B0.1 (wd hw (k := 110) rfl) (W.declares_of (wd hw (k := 111) rfl) (wd hw (k := 114) rfl)) (wd hw (k := 113) rfl) (wd hw (k := 111) rfl) (notFace_of_selects (args := #[]) (mvT P143.hz (wd hw (k := 113) rfl))) (by decide) (W.MetN.pay (W := 0) (c_put l Z a0 hw x t kb cap cnt g y u ku n f h0 B0 S0 hc EZ zc fm US) P143 (wd hw (k := 114) rfl) (wd hw (k := 72) rfl) (by decide) (by decide)) (argsL := [(.int (Int32.ofNat cnt)), (.ref y)]) (st0 := []) (lenOf pd_ILjava_lang_String_R_V rfl) rfl rfl (Nat.le_of_eq rfl) (by rw [hml]; rfl) (by decide) (by decide) (fun _ _ _ q => ⟨q.2.1.up (Nat.le_refl _) (allS (Or.inl (List.mem_cons_of_mem _ (List.mem_singleton.mpr rfl))) all0), CHr.keep q.2.2.1 (sfS W.safe0 sf0) P143.chv⟩) d18_30 rfl ?_
  intro v144 T144 h144 L144 q144 P144
  obtain ⟨rfl, f144, K144, G144⟩ := q144
  show W.Go p.tables e below _ (T144.setTop (mkF m 33 #[.val (.ref x), .val (.ref y), .val (.int (Int32.ofNat n))] []))
  have Ec := B0.1.keep K144
  have Vc := B0.2.1.keep K144 (ninS hxt nin0)
  have Cc := B0.2.2.1.keep K144 (ninS hxt nin0)
  have Nc := B0.2.2.2.1.keep K144 (ninS hxt nin0)
  refine W.g_aloadN (pc1 := 34) P144.q d18_33 rfl rfl rfl ?_
  refine W.g_dup (pc1 := 35) P144.q d18_34 rfl rfl ?_
  refine P144.getF (host := "") (pc1 := 38) (Or.inl (wd hw (k := 103) rfl)) Via.refl Nc d18_35 rfl ?_
  intro T145 P145
  refine W.g_iloadN (pc1 := 39) P145.q d18_38 rfl rfl ?_
  refine W.g_iadd (pc1 := 40) P145.q d18_39 rfl ?_
  rw [own_add]
  show W.Go p.tables e below _ (T145.setTop (mkF m 40 #[.val (.ref x), .val (.ref y), .val (.int (Int32.ofNat n))] [(.int (Int32.ofNat (cnt + n))), (.ref x)]))
  refine P145.putF (host := "") (pc1 := 43) (Or.inl (wd hw (k := 103) rfl)) Via.refl Nc Ec (Or.inl (wd hw (k := 104) rfl)) (wd hw (k := 63) rfl) (ty := .int) (by decide) rfl rfl (Or.inl (List.mem_cons_self)) W.safe0 d18_40 rfl ?_
  intro T146 h146 P146 W146
  have Ed := Ec.wr W146
  have Vd := Vc.other W146 (Or.inr (slot_ne (t := .array .byte) (t' := .int) (Or.inl (wd hw (k := 77) rfl)) (Or.inl (wd hw (k := 104) rfl)) (by decide) (by decide) (by decide)))
  have Cd := Cc.other W146 (Or.inr (slot_ne (t := .byte) (t' := .int) (Or.inl (wd hw (k := 79) rfl)) (Or.inl (wd hw (k := 104) rfl)) (by decide) (by decide) (by decide)))
  have Nd := Nc.same W146
  have Gd := G144.other W146 (Ne.symm hxt)
  refine W.g_aloadN (pc1 := 44) P146.q d18_43 rfl rfl rfl ?_
  exact P146.retAN hlk hret rfl rfl rfl d18_44 (by decide) (by decide) ⟨rfl, P146.fr, P146.keep, Ed, Vd, Cd, Nd, Gd, (B0.2.2.2.2.2.keep K144).wr W146⟩
def QAG (Z : State) (x : Addr) (cap cnt : Nat) (g : Nat → Int32) (h0 : Heap) (v : Option Value) (h : Heap) (L : List Loc) : Prop := v = some (.ref x) ∧ W.Frw [x] h0.size L ∧ Keep h0 h [x] ∧ ∃ t kb, h0.size ≤ t ∧ Sb Z h x t kb cap cnt g
set_option maxRecDepth 65536 in
set_option maxHeartbeats 40000000 in
theorem c_appg (l : Launch) (Z : State) (a0 : Array Value) (hw : ∀ d ∈ tables_1, d.before a0 Z = true) (x t : Addr) (kb : ClassId) (cap cnt : Nat) (g : Nat → Int32) (y u : Addr) (ku : ClassId) (n : Nat) (f : Nat → Int32) (h0 : Heap) (B0 : Sb Z h0 x t kb cap cnt g) (S0 : Lt Z h0 y u ku n f) (cap2 : Nat) (hm : cap < cnt + n) (h2 : cap2 = cap + max (cnt + n - cap) (cap + 2)) (hx : cap2 ≤ 136) (hyx : ¬ y = x) (hux : ¬ u = x) (hzx : Z.heap.size ≤ x) (EZ : Ext Z.heap h0) (zc : Int32) (fm : Value) (US : UST Z zc fm) : W.MetN l Z (⟨"java/lang/AbstractStringBuilder", "append", "(Ljava/lang/String;)Ljava/lang/AbstractStringBuilder;"⟩ : MethodName) jdk_68_method_22_code 3 ((Option.some (Jvm.ClassFile.FieldType.object "java/lang/AbstractStringBuilder"))) [] ({ frames := 4, cells := 1, slots := 136, locals := 66 } : Room) #[.ref x, .ref y]  h0 (QAG Z x cap2 (cnt + n) (W.cpy (fun i => StrChars.lo8 (f i)) (W.cpy g (fun _ => 0) 0 0 cap) 0 cnt n) h0) := by
  refine W.MetN.mk (ls0 := #[.val (.ref x), .val (.ref y), .unset]) [x] (plainFor_of_name pn_java_lang_AbstractStringBuilder) (fun m => by first | (simp [entryFrame, mkF, argsToLocals, Value.category]; done) | rfl) ?_
  intro p e s m below meth c s₁ hml hret hnm hlk P0
  show W.Go p.tables e below _ (s₁.setTop (mkF m 0 #[.val (.ref x), .val (.ref y), .unset] []))
  refine W.g_aloadN (pc1 := 1) P0.q d18_0 rfl rfl rfl ?_
  refine W.g_nonY (pc1 := 9) P0.q d18_1 (by decide) rfl ?_
  refine W.g_aloadN (pc1 := 10) P0.q d18_9 rfl rfl rfl ?_
  refine P0.callV (pc1 := 13) S0.1 (wd hw (k := 93) rfl) (wd hw (k := 94) rfl) (wd hw (k := 96) rfl) (wd hw (k := 95) rfl) (notFace_of_selects (args := #[]) (mvT P0.hz (wd hw (k := 96) rfl))) (by decide) (W.MetN.pay (W := 0) (c_len l Z a0 hw y u ku n f h0 S0 EZ zc fm US) P0 (wd hw (k := 97) rfl) (wd hw (k := 2) rfl) (by decide) (by decide)) (argsL := []) (st0 := []) (lenOf pd__R_I rfl) rfl rfl (Nat.le_of_eq rfl) (by rw [hml]; rfl) (by decide) (by decide) (W.Pure.ok P0.chv) d18_10 rfl ?_
  intro v147 T147 h147 L147 q147 P147
  obtain ⟨rfl, rfl, rfl⟩ := q147
  show W.Go p.tables e below _ (T147.setTop (mkF m 13 #[.val (.ref x), .val (.ref y), .unset] [(.int (Int32.ofNat n))]))
  refine W.g_istoreN (pc1 := 14) (ls2 := #[.val (.ref x), .val (.ref y), .val (.int (Int32.ofNat n))]) P147.q d18_13 rfl rfl ?_
  refine W.g_aloadN (pc1 := 15) P147.q d18_14 rfl rfl rfl ?_
  refine W.g_aloadN (pc1 := 16) P147.q d18_15 rfl rfl rfl ?_
  refine P147.getF (host := "") (pc1 := 19) (Or.inl (wd hw (k := 103) rfl)) Via.refl B0.2.2.2.1 d18_16 rfl ?_
  intro T148 P148
  refine W.g_iloadN (pc1 := 20) P148.q d18_19 rfl rfl ?_
  refine W.g_iadd (pc1 := 21) P148.q d18_20 rfl ?_
  rw [own_add]
  show W.Go p.tables e below _ (T148.setTop (mkF m 21 #[.val (.ref x), .val (.ref y), .val (.int (Int32.ofNat n))] [(.int (Int32.ofNat (cnt + n))), (.ref x)]))
  refine P148.callV (pc1 := 24) B0.1 (wd hw (k := 105) rfl) (W.declares_of (wd hw (k := 106) rfl) (wd hw (k := 109) rfl)) (wd hw (k := 108) rfl) (wd hw (k := 106) rfl) (notFace_of_selects (args := #[]) (mvT P148.hz (wd hw (k := 108) rfl))) (by decide) (W.MetN.pay (W := 0) (c_eng l Z a0 hw x t kb cap cnt g h0 B0 (cnt + n) cap2 hm h2 hx) P148 (wd hw (k := 109) rfl) (wd hw (k := 72) rfl) (by decide) (by decide)) (argsL := [(.int (Int32.ofNat (cnt + n)))]) (st0 := []) (lenOf pd_I_R_V rfl) rfl rfl (Nat.le_of_eq rfl) (by rw [hml]; rfl) (by decide) (by decide) (fun _ _ _ q => ⟨q.2.1, CHr.keep q.2.2.1 (sfS W.safe0 sf0) P148.chv⟩) d18_21 rfl ?_
  intro v149 T149 h149 L149 q149 P149
  obtain ⟨rfl, f149, K149, t149, k149, n149, B149⟩ := q149
  show W.Go p.tables e below _ (T149.setTop (mkF m 24 #[.val (.ref x), .val (.ref y), .val (.int (Int32.ofNat n))] []))
  have S1 : Lt Z h149 y u ku n f := ⟨S0.1.keep K149, S0.2.1.keep K149 (ninS hyx nin0), S0.2.2.1.keep K149 (ninS hyx nin0), S0.2.2.2.1.keep K149 (ninS hux nin0), S0.2.2.2.2⟩
  have hxt : x ≠ t149 := Nat.ne_of_lt (Nat.lt_of_lt_of_le B0.1.lt n149)
  refine W.g_aloadN (pc1 := 25) P149.q d18_24 rfl rfl rfl ?_
  refine W.g_aloadN (pc1 := 26) P149.q d18_25 rfl rfl rfl ?_
  refine P149.getF (host := "") (pc1 := 29) (Or.inl (wd hw (k := 103) rfl)) Via.refl B149.2.2.2.1 d18_26 rfl ?_
  intro T150 P150
  refine W.g_aloadN (pc1 := 30) P150.q d18_29 rfl rfl rfl ?_
  refine P150.callV (pc1 := 33) B149.1 (wd hw (k := 110) rfl) (W.declares_of (wd hw (k := 111) rfl) (wd hw (k := 114) rfl)) (wd hw (k := 113) rfl) (wd hw (k := 111) rfl) (notFace_of_selects (args := #[]) (mvT P150.hz (wd hw (k := 113) rfl))) (by decide) (W.MetN.pay (W := 0) (c_put l Z a0 hw x t149 k149 cap2 cnt (W.cpy g (fun _ => 0) 0 0 cap) y u ku n f h149 B149 S1 (by omega) (own_ek EZ K149 hzx) zc fm US) P150 (wd hw (k := 114) rfl) (wd hw (k := 72) rfl) (by decide) (by decide)) (argsL := [(.int (Int32.ofNat cnt)), (.ref y)]) (st0 := []) (lenOf pd_ILjava_lang_String_R_V rfl) rfl rfl (Nat.le_of_eq rfl) (by rw [hml]; rfl) (by decide) (by decide) (fun _ _ _ q => ⟨q.2.1.up P150.sz (allS (Or.inr n149) all0), CHr.keep q.2.2.1 (sfS W.safe0 sf0) P150.chv⟩) d18_30 rfl ?_
  intro v151 T151 h151 L151 q151 P151
  obtain ⟨rfl, f151, K151, G151⟩ := q151
  show W.Go p.tables e below _ (T151.setTop (mkF m 33 #[.val (.ref x), .val (.ref y), .val (.int (Int32.ofNat n))] []))
  have Ec := B149.1.keep K151
  have Vc := B149.2.1.keep K151 (ninS hxt nin0)
  have Cc := B149.2.2.1.keep K151 (ninS hxt nin0)
  have Nc := B149.2.2.2.1.keep K151 (ninS hxt nin0)
  refine W.g_aloadN (pc1 := 34) P151.q d18_33 rfl rfl rfl ?_
  refine W.g_dup (pc1 := 35) P151.q d18_34 rfl rfl ?_
  refine P151.getF (host := "") (pc1 := 38) (Or.inl (wd hw (k := 103) rfl)) Via.refl Nc d18_35 rfl ?_
  intro T152 P152
  refine W.g_iloadN (pc1 := 39) P152.q d18_38 rfl rfl ?_
  refine W.g_iadd (pc1 := 40) P152.q d18_39 rfl ?_
  rw [own_add]
  show W.Go p.tables e below _ (T152.setTop (mkF m 40 #[.val (.ref x), .val (.ref y), .val (.int (Int32.ofNat n))] [(.int (Int32.ofNat (cnt + n))), (.ref x)]))
  refine P152.putF (host := "") (pc1 := 43) (Or.inl (wd hw (k := 103) rfl)) Via.refl Nc Ec (Or.inl (wd hw (k := 104) rfl)) (wd hw (k := 63) rfl) (ty := .int) (by decide) rfl rfl (Or.inl (List.mem_cons_self)) W.safe0 d18_40 rfl ?_
  intro T153 h153 P153 W153
  refine W.g_aloadN (pc1 := 44) P153.q d18_43 rfl rfl rfl ?_
  exact P153.retAN hlk hret rfl rfl rfl d18_44 (by decide) (by decide) ⟨rfl, P153.fr, P153.keep, t149, k149, n149, Ec.wr W153, Vc.other W153 (Or.inr (slot_ne (t := .array .byte) (t' := .int) (Or.inl (wd hw (k := 77) rfl)) (Or.inl (wd hw (k := 104) rfl)) (by decide) (by decide) (by decide))), Cc.other W153 (Or.inr (slot_ne (t := .byte) (t' := .int) (Or.inl (wd hw (k := 79) rfl)) (Or.inl (wd hw (k := 104) rfl)) (by decide) (by decide) (by decide))), Nc.same W153, G151.other W153 (Ne.symm hxt), (B149.2.2.2.2.2.keep K151).wr W153⟩
set_option maxRecDepth 65536 in
set_option maxHeartbeats 40000000 in
theorem c_sapp (l : Launch) (Z : State) (a0 : Array Value) (hw : ∀ d ∈ tables_1, d.before a0 Z = true) (x t : Addr) (kb : ClassId) (cap cnt : Nat) (g : Nat → Int32) (y u : Addr) (ku : ClassId) (n : Nat) (f : Nat → Int32) (h0 : Heap) (B0 : Sb Z h0 x t kb cap cnt g) (S0 : Lt Z h0 y u ku n f) (hc : cnt + n ≤ cap) (EZ : Ext Z.heap h0) (zc : Int32) (fm : Value) (US : UST Z zc fm) : W.MetN l Z (⟨"java/lang/StringBuilder", "append", "(Ljava/lang/String;)Ljava/lang/StringBuilder;"⟩ : MethodName) jdk_67_method_7_code 2 ((Option.some (Jvm.ClassFile.FieldType.object "java/lang/StringBuilder"))) [] ({ frames := 4, cells := 0, slots := 0, locals := 68 } : Room) #[.ref x, .ref y]  h0 (QAP Z x t kb cap (cnt + n) (W.cpy (fun i => StrChars.lo8 (f i)) g 0 cnt n) h0) := by
  refine W.MetN.mk (ls0 := #[.val (.ref x), .val (.ref y)]) [x, t] (plainFor_of_name pn_java_lang_StringBuilder) (fun m => by first | (simp [entryFrame, mkF, argsToLocals, Value.category]; done) | rfl) ?_
  intro p e s m below meth c s₁ hml hret hnm hlk P0
  show W.Go p.tables e below _ (s₁.setTop (mkF m 0 #[.val (.ref x), .val (.ref y)] []))
  refine W.g_aloadN (pc1 := 1) P0.q d17_0 rfl rfl rfl ?_
  refine W.g_aloadN (pc1 := 2) P0.q d17_1 rfl rfl rfl ?_
  refine P0.callU (pc1 := 5) (Ins.self B0.1) (wd hw (k := 88) rfl) (W.same_of (z := (⟨"java/lang/AbstractStringBuilder", "getValue", "()[B"⟩ : MethodName)) (wd hw (k := 89) rfl) rfl (wd hw (k := 172) rfl) (notFace_of_selects (wd hw (k := 173) rfl)) (by decide)) (wd hw (k := 89) rfl) (wd hw (k := 90) rfl) (by decide) (wd hw (k := 92) rfl) (W.MetN.pay (W := 0) (c_app l Z a0 hw x t kb cap cnt g y u ku n f h0 B0 S0 hc EZ zc fm US) P0 (wd hw (k := 92) rfl) (wd hw (k := 72) rfl) (by decide) (by decide)) (argsL := [(.ref y)]) (st0 := []) (lenOf pd_Ljava_lang_String_R_Ljava_lang_AbstractStringBuilder rfl) rfl rfl (Nat.le_of_eq rfl) (by rw [hml]; rfl) (by decide) (by decide) (fun _ _ _ q => ⟨q.2.1, CHr.keep q.2.2.1 (sfS W.safe0 (sfS W.safe0 sf0)) P0.chv⟩) d17_2 rfl ?_
  intro v154 T154 h154 L154 q154 P154
  obtain ⟨rfl, f154, K154, B154⟩ := q154
  show W.Go p.tables e below _ (T154.setTop (mkF m 5 #[.val (.ref x), .val (.ref y)] [(.ref x)]))
  refine W.g_pop (pc1 := 6) P154.q d17_5 rfl rfl ?_
  refine W.g_aloadN (pc1 := 7) P154.q d17_6 rfl rfl rfl ?_
  exact P154.retAN hlk hret rfl rfl rfl d17_7 (by decide) (by decide) ⟨rfl, P154.fr, P154.keep, B154⟩
set_option maxRecDepth 65536 in
set_option maxHeartbeats 40000000 in
theorem c_sappg (l : Launch) (Z : State) (a0 : Array Value) (hw : ∀ d ∈ tables_1, d.before a0 Z = true) (x t : Addr) (kb : ClassId) (cap cnt : Nat) (g : Nat → Int32) (y u : Addr) (ku : ClassId) (n : Nat) (f : Nat → Int32) (h0 : Heap) (B0 : Sb Z h0 x t kb cap cnt g) (S0 : Lt Z h0 y u ku n f) (cap2 : Nat) (hm : cap < cnt + n) (h2 : cap2 = cap + max (cnt + n - cap) (cap + 2)) (hx : cap2 ≤ 136) (hyx : ¬ y = x) (hux : ¬ u = x) (hzx : Z.heap.size ≤ x) (EZ : Ext Z.heap h0) (zc : Int32) (fm : Value) (US : UST Z zc fm) : W.MetN l Z (⟨"java/lang/StringBuilder", "append", "(Ljava/lang/String;)Ljava/lang/StringBuilder;"⟩ : MethodName) jdk_67_method_7_code 2 ((Option.some (Jvm.ClassFile.FieldType.object "java/lang/StringBuilder"))) [] ({ frames := 5, cells := 1, slots := 136, locals := 82 } : Room) #[.ref x, .ref y]  h0 (QAG Z x cap2 (cnt + n) (W.cpy (fun i => StrChars.lo8 (f i)) (W.cpy g (fun _ => 0) 0 0 cap) 0 cnt n) h0) := by
  refine W.MetN.mk (ls0 := #[.val (.ref x), .val (.ref y)]) [x] (plainFor_of_name pn_java_lang_StringBuilder) (fun m => by first | (simp [entryFrame, mkF, argsToLocals, Value.category]; done) | rfl) ?_
  intro p e s m below meth c s₁ hml hret hnm hlk P0
  show W.Go p.tables e below _ (s₁.setTop (mkF m 0 #[.val (.ref x), .val (.ref y)] []))
  refine W.g_aloadN (pc1 := 1) P0.q d17_0 rfl rfl rfl ?_
  refine W.g_aloadN (pc1 := 2) P0.q d17_1 rfl rfl rfl ?_
  refine P0.callU (pc1 := 5) (Ins.self B0.1) (wd hw (k := 88) rfl) (W.same_of (z := (⟨"java/lang/AbstractStringBuilder", "getValue", "()[B"⟩ : MethodName)) (wd hw (k := 89) rfl) rfl (wd hw (k := 172) rfl) (notFace_of_selects (wd hw (k := 173) rfl)) (by decide)) (wd hw (k := 89) rfl) (wd hw (k := 90) rfl) (by decide) (wd hw (k := 92) rfl) (W.MetN.pay (W := 0) (c_appg l Z a0 hw x t kb cap cnt g y u ku n f h0 B0 S0 cap2 hm h2 hx hyx hux hzx EZ zc fm US) P0 (wd hw (k := 92) rfl) (wd hw (k := 72) rfl) (by decide) (by decide)) (argsL := [(.ref y)]) (st0 := []) (lenOf pd_Ljava_lang_String_R_Ljava_lang_AbstractStringBuilder rfl) rfl rfl (Nat.le_of_eq rfl) (by rw [hml]; rfl) (by decide) (by decide) (fun _ _ _ q => ⟨q.2.1, CHr.keep q.2.2.1 (sfS W.safe0 sf0) P0.chv⟩) d17_2 rfl ?_
  intro v155 T155 h155 L155 q155 P155
  obtain ⟨rfl, f155, K155, t155, k155, n155, B155⟩ := q155
  show W.Go p.tables e below _ (T155.setTop (mkF m 5 #[.val (.ref x), .val (.ref y)] [(.ref x)]))
  refine W.g_pop (pc1 := 6) P155.q d17_5 rfl rfl ?_
  refine W.g_aloadN (pc1 := 7) P155.q d17_6 rfl rfl rfl ?_
  exact P155.retAN hlk hret rfl rfl rfl d17_7 (by decide) (by decide) ⟨rfl, P155.fr, P155.keep, t155, k155, n155, B155⟩
set_option maxRecDepth 65536 in
set_option maxHeartbeats 40000000 in
theorem c_gv (l : Launch) (Z : State) (a0 : Array Value) (hw : ∀ d ∈ tables_1, d.before a0 Z = true) (x : Addr) (t : Addr) (h0 : Heap) (F0 : Fld Z h0 x "java/lang/AbstractStringBuilder" "value" "[B" (.ref t)) : W.MetN l Z (⟨"java/lang/AbstractStringBuilder", "getValue", "()[B"⟩ : MethodName) jdk_68_method_64_code 1 ((Option.some (Jvm.ClassFile.FieldType.array Jvm.ClassFile.FieldType.byte))) [] ({ frames := 0, cells := 0, slots := 0, locals := 0 } : Room) #[.ref x]  h0 (W.Pure (some (.ref t)) h0) := by
  refine W.MetN.mk (ls0 := #[.val (.ref x)]) [] (plainFor_of_name pn_java_lang_AbstractStringBuilder) (fun m => by first | (simp [entryFrame, mkF, argsToLocals, Value.category]; done) | rfl) ?_
  intro p e s m below meth c s₁ hml hret hnm hlk P0
  show W.Go p.tables e below _ (s₁.setTop (mkF m 0 #[.val (.ref x)] []))
  refine W.g_aloadN (pc1 := 1) P0.q d33_0 rfl rfl rfl ?_
  refine P0.getF (host := "") (pc1 := 4) (Or.inl (wd hw (k := 76) rfl)) Via.refl F0 d33_1 rfl ?_
  intro T156 P156
  exact P156.retAN hlk hret rfl rfl rfl d33_4 (by decide) (by decide) ⟨rfl, rfl, rfl⟩
set_option maxRecDepth 65536 in
set_option maxHeartbeats 40000000 in
theorem c_alen (l : Launch) (Z : State) (a0 : Array Value) (hw : ∀ d ∈ tables_1, d.before a0 Z = true) (x : Addr) (z : Int32) (h0 : Heap) (F0 : Fld Z h0 x "java/lang/AbstractStringBuilder" "count" "I" (.int z)) : W.MetN l Z (⟨"java/lang/AbstractStringBuilder", "length", "()I"⟩ : MethodName) jdk_68_method_6_code 1 ((Option.some Jvm.ClassFile.FieldType.int)) [] ({ frames := 0, cells := 0, slots := 0, locals := 0 } : Room) #[.ref x]  h0 (W.Pure (some (.int z)) h0) := by
  refine W.MetN.mk (ls0 := #[.val (.ref x)]) [] (plainFor_of_name pn_java_lang_AbstractStringBuilder) (fun m => by first | (simp [entryFrame, mkF, argsToLocals, Value.category]; done) | rfl) ?_
  intro p e s m below meth c s₁ hml hret hnm hlk P0
  show W.Go p.tables e below _ (s₁.setTop (mkF m 0 #[.val (.ref x)] []))
  refine W.g_aloadN (pc1 := 1) P0.q d35_0 rfl rfl rfl ?_
  refine P0.getF (host := "") (pc1 := 4) (Or.inl (wd hw (k := 103) rfl)) Via.refl F0 d35_1 rfl ?_
  intro T157 P157
  exact P157.retIN hlk hret d35_4 (by decide) (by decide) ⟨rfl, rfl, rfl⟩
set_option maxRecDepth 65536 in
set_option maxHeartbeats 40000000 in
theorem c_slen (l : Launch) (Z : State) (a0 : Array Value) (hw : ∀ d ∈ tables_1, d.before a0 Z = true) (x t : Addr) (kb : ClassId) (cap cnt : Nat) (g : Nat → Int32) (h0 : Heap) (B0 : Sb Z h0 x t kb cap cnt g)  : W.MetN l Z (⟨"java/lang/StringBuilder", "length", "()I"⟩ : MethodName) jdk_67_method_93_code 1 ((Option.some Jvm.ClassFile.FieldType.int)) [] ({ frames := 1, cells := 0, slots := 0, locals := 13 } : Room) #[.ref x]  h0 (W.Pure (some (.int (Int32.ofNat cnt))) h0) := by
  refine W.MetN.mk (ls0 := #[.val (.ref x)]) [] (plainFor_of_name pn_java_lang_StringBuilder) (fun m => by first | (simp [entryFrame, mkF, argsToLocals, Value.category]; done) | rfl) ?_
  intro p e s m below meth c s₁ hml hret hnm hlk P0
  show W.Go p.tables e below _ (s₁.setTop (mkF m 0 #[.val (.ref x)] []))
  refine W.g_aloadN (pc1 := 1) P0.q d34_0 rfl rfl rfl ?_
  refine P0.callU (pc1 := 4) (Ins.self B0.1) (wd hw (k := 181) rfl) (W.same_of (z := (⟨"java/lang/AbstractStringBuilder", "getValue", "()[B"⟩ : MethodName)) (wd hw (k := 177) rfl) rfl (wd hw (k := 172) rfl) (notFace_of_selects (wd hw (k := 173) rfl)) (by decide)) (wd hw (k := 177) rfl) (wd hw (k := 90) rfl) (by decide) (wd hw (k := 182) rfl) (W.MetN.pay (W := 0) (c_alen l Z a0 hw x (Int32.ofNat cnt) h0 B0.2.2.2.1) P0 (wd hw (k := 182) rfl) (wd hw (k := 72) rfl) (by decide) (by decide)) (argsL := []) (st0 := []) (lenOf pd__R_I rfl) rfl rfl (Nat.le_of_eq rfl) (by rw [hml]; rfl) (by decide) (by decide) (W.Pure.ok P0.chv) d34_1 rfl ?_
  intro v158 T158 h158 L158 q158 P158
  obtain ⟨rfl, rfl, rfl⟩ := q158
  show W.Go p.tables e below _ (T158.setTop (mkF m 4 #[.val (.ref x)] [(.int (Int32.ofNat cnt))]))
  exact P158.retIN hlk hret d34_4 (by decide) (by decide) ⟨rfl, rfl, rfl⟩
set_option maxRecDepth 65536 in
set_option maxHeartbeats 40000000 in
theorem c_alat (l : Launch) (Z : State) (a0 : Array Value) (hw : ∀ d ∈ tables_1, d.before a0 Z = true) (x t : Addr) (kb : ClassId) (cap cnt : Nat) (g : Nat → Int32) (h0 : Heap) (B0 : Sb Z h0 x t kb cap cnt g) (EZ : Ext Z.heap h0) (zc : Int32) (fm : Value) (US : UST Z zc fm) : W.MetN l Z (⟨"java/lang/AbstractStringBuilder", "isLatin1", "()Z"⟩ : MethodName) jdk_68_method_68_code 1 ((Option.some Jvm.ClassFile.FieldType.boolean)) [] ({ frames := 0, cells := 0, slots := 0, locals := 0 } : Room) #[.ref x]  h0 (W.Pure (some (.int 1)) h0) := by
  refine W.MetN.mk (ls0 := #[.val (.ref x)]) [] (plainFor_of_name pn_java_lang_AbstractStringBuilder) (fun m => by first | (simp [entryFrame, mkF, argsToLocals, Value.category]; done) | rfl) ?_
  intro p e s m below meth c s₁ hml hret hnm hlk P0
  show W.Go p.tables e below _ (s₁.setTop (mkF m 0 #[.val (.ref x)] []))
  refine P0.getS (pc1 := 3) (wd hw (k := 75) rfl) Via.refl (US.2.1.ext EZ) d36_0 rfl ?_
  intro T159 P159
  refine W.g_ifN (pc2 := 6) P159.q d36_3 rfl US.1 ?_
  refine W.g_aloadN (pc1 := 7) P159.q d36_6 rfl rfl rfl ?_
  refine P159.getF (host := "") (pc1 := 10) (Or.inl (wd hw (k := 78) rfl)) Via.refl B0.2.2.1 d36_7 rfl ?_
  intro T160 P160
  refine W.g_ifN (pc2 := 13) P160.q d36_10 rfl (by decide) ?_
  refine W.g_iconst (pc1 := 14) (v := (1 : Int32)) P160.q d36_13 (by decide) rfl ?_
  refine W.g_goto (pc1 := 18) P160.q d36_14 (by decide) rfl ?_
  exact P160.retVN hlk hret (Or.inl rfl) d36_18 (by decide) (by decide) ⟨rfl, rfl, rfl⟩
set_option maxRecDepth 65536 in
set_option maxHeartbeats 40000000 in
theorem c_chk (l : Launch) (Z : State) (a0 : Array Value) (hw : ∀ d ∈ tables_1, d.before a0 Z = true) (n : Nat) (hn : n < 2147483648) (h0 : Heap) : W.MetN l Z (⟨"java/util/Arrays", "checkLength", "(II)V"⟩ : MethodName) jdk_65_method_131_code 2 ((Option.none : Option Jvm.ClassFile.FieldType)) [] ({ frames := 0, cells := 0, slots := 0, locals := 0 } : Room) #[.int 0, .int (Int32.ofNat n)]  h0 (W.Pure none h0) := by
  refine W.MetN.mk (ls0 := #[.val (.int (0 : Int32)), .val (.int (Int32.ofNat n))]) [] (plainFor_of_name pn_java_util_Arrays) (fun m => by first | (simp [entryFrame, mkF, argsToLocals, Value.category]; done) | rfl) ?_
  intro p e s m below meth c s₁ hml hret hnm hlk P0
  show W.Go p.tables e below _ (s₁.setTop (mkF m 0 #[.val (.int (0 : Int32)), .val (.int (Int32.ofNat n))] []))
  refine W.g_iloadN (pc1 := 1) P0.q d39_0 rfl rfl ?_
  refine W.g_iloadN (pc1 := 2) P0.q d39_1 rfl rfl ?_
  refine W.g_cmpY (pc1 := 37) P0.q d39_2 (by decide) rfl (W.nn32 hn) ?_
  exact P0.retN hlk hret d39_37 (by decide) (by decide) ⟨rfl, rfl, rfl⟩
def QCR (Z : State) (n : Nat) (g : Nat → Int32) (h0 : Heap) (v : Option Value) (h : Heap) (L : List Loc) : Prop := ∃ a k, v = some (.ref a) ∧ W.Frw [] h0.size L ∧ Ext h0 h ∧ h0.size ≤ a ∧ W.Arg Z h a k .byte n g
set_option maxRecDepth 65536 in
set_option maxHeartbeats 40000000 in
theorem c_corb (l : Launch) (Z : State) (a0 : Array Value) (hw : ∀ d ∈ tables_1, d.before a0 Z = true) (t : Addr) (kb : ClassId) (cap n : Nat) (g : Nat → Int32) (hn : n ≤ cap) (hx : n ≤ 68) (h0 : Heap) (A0 : W.Arg Z h0 t kb .byte cap g) : W.MetN l Z (⟨"java/util/Arrays", "copyOfRangeByte", "([BII)[B"⟩ : MethodName) jdk_65_method_133_code 5 ((Option.some (Jvm.ClassFile.FieldType.array Jvm.ClassFile.FieldType.byte))) [] ({ frames := 1, cells := 1, slots := 68, locals := 24 } : Room) #[.ref t, .int 0, .int (Int32.ofNat n)]  h0 (QCR Z n g h0) := by
  refine W.MetN.mk (ls0 := #[.val (.ref t), .val (.int (0 : Int32)), .val (.int (Int32.ofNat n)), .unset, .unset]) [] (plainFor_of_name pn_java_util_Arrays) (fun m => by first | (simp [entryFrame, mkF, argsToLocals, Value.category]; done) | rfl) ?_
  intro p e s m below meth c s₁ hml hret hnm hlk P0
  show W.Go p.tables e below _ (s₁.setTop (mkF m 0 #[.val (.ref t), .val (.int (0 : Int32)), .val (.int (Int32.ofNat n)), .unset, .unset] []))
  have hs := A0.small
  refine W.g_iloadN (pc1 := 1) P0.q d38_0 rfl rfl ?_
  refine W.g_iloadN (pc1 := 2) P0.q d38_1 rfl rfl ?_
  refine P0.callS (pc1 := 5) (wd hw (k := 194) rfl) (wd hw (k := 195) rfl) (wd hw (k := 150) rfl) (wd hw (k := 196) rfl) (by decide) (W.MetN.pay (W := 0) (c_chk l Z a0 hw n (by omega) h0) P0 (wd hw (k := 196) rfl) (wd hw (k := 150) rfl) (by decide) (by decide)) (argsL := [(.int (0 : Int32)), (.int (Int32.ofNat n))]) (st0 := []) (lenOf pd_II_R_V rfl) rfl rfl (Nat.le_of_eq rfl) (by rw [hml]; rfl) (by decide) (by decide) (W.Pure.ok P0.chv) d38_2 rfl ?_
  intro v161 T161 h161 L161 q161 P161
  obtain ⟨rfl, rfl, rfl⟩ := q161
  show W.Go p.tables e below _ (T161.setTop (mkF m 5 #[.val (.ref t), .val (.int (0 : Int32)), .val (.int (Int32.ofNat n)), .unset, .unset] []))
  refine W.g_iloadN (pc1 := 6) P161.q d38_5 rfl rfl ?_
  refine W.g_iloadN (pc1 := 7) P161.q d38_6 rfl rfl ?_
  refine W.g_isub (pc1 := 8) P161.q d38_7 rfl ?_
  rw [own_sub0]
  refine W.g_istoreN (pc1 := 9) (ls2 := #[.val (.ref t), .val (.int (0 : Int32)), .val (.int (Int32.ofNat n)), .val (.int (Int32.ofNat n)), .unset]) P161.q d38_8 rfl rfl ?_
  refine W.g_iloadN (pc1 := 10) P161.q d38_9 rfl rfl ?_
  refine P161.newP (pc1 := 12) (cap := 68) (wd hw (k := 14) rfl) (W.nn32 (by omega)) (by rw [W.n32 (by omega)]; exact hx) (by decide) (by decide) (by decide) d38_10 rfl ?_
  intro T162 h162 x162 k162 g162 P162 E162 V162
  have G0 : W.Arg Z h162 x162 k162 .byte n (fun _ => 0) := W.Arg.new (by omega) V162
  have A1 := A0.ext E162
  refine W.g_astore (pc1 := 14) (ls2 := #[.val (.ref t), .val (.int (0 : Int32)), .val (.int (Int32.ofNat n)), .val (.int (Int32.ofNat n)), .val (.ref x162)]) P162.q d38_12 rfl rfl rfl ?_
  refine W.g_aloadN (pc1 := 15) P162.q d38_14 rfl rfl rfl ?_
  refine W.g_iloadN (pc1 := 16) P162.q d38_15 rfl rfl ?_
  refine W.g_aload (pc1 := 18) P162.q d38_16 rfl rfl rfl ?_
  refine W.g_iconst (pc1 := 19) (v := (0 : Int32)) P162.q d38_18 (by decide) rfl ?_
  refine W.g_aloadN (pc1 := 20) P162.q d38_19 rfl rfl rfl ?_
  refine P162.lenG (pc1 := 21) A1 d38_20 rfl ?_
  refine W.g_iloadN (pc1 := 22) P162.q d38_21 rfl rfl ?_
  refine W.g_isub (pc1 := 23) P162.q d38_22 rfl ?_
  rw [own_sub0]
  refine W.g_iloadN (pc1 := 24) P162.q d38_23 rfl rfl ?_
  refine P162.callS (pc1 := 27) (wd hw (k := 152) rfl) (wd hw (k := 153) rfl) (wd hw (k := 144) rfl) (wd hw (k := 154) rfl) (by decide) (W.MetN.pay (W := 4) (c_min l Z a0 hw cap n hs (by omega) h162) P162 (wd hw (k := 154) rfl) (wd hw (k := 144) rfl) (by decide) (by decide)) (argsL := [(.int (Int32.ofNat cap)), (.int (Int32.ofNat n))]) (st0 := [(.int (0 : Int32)), (.ref x162), (.int (0 : Int32)), (.ref t)]) (lenOf pd_II_R_I rfl) rfl rfl (Nat.le_of_eq rfl) (by rw [hml]; rfl) (by decide) (by decide) (W.Pure.ok P162.chv) d38_24 rfl ?_
  intro v163 T163 h163 L163 q163 P163
  obtain ⟨rfl, rfl, rfl⟩ := q163
  show W.Go p.tables e below _ (T163.setTop (mkF m 27 #[.val (.ref t), .val (.int (0 : Int32)), .val (.int (Int32.ofNat n)), .val (.int (Int32.ofNat n)), .val (.ref x162)] [(.int (Int32.ofNat (min cap n))), (.int (0 : Int32)), (.ref x162), (.int (0 : Int32)), (.ref t)]))
  rw [Nat.min_eq_right hn]
  show W.Go p.tables e below _ (T163.setTop (mkF m 27 #[.val (.ref t), .val (.int (0 : Int32)), .val (.int (Int32.ofNat n)), .val (.int (Int32.ofNat n)), .val (.ref x162)] [(.int (Int32.ofNat n)), (.int (Int32.ofNat 0)), (.ref x162), (.int (Int32.ofNat 0)), (.ref t)]))
  refine P163.copyB (pc1 := 30) (sp := 0) (dp := 0) (q := n) (W := 0) (wd hw (k := 155) rfl) (wd hw (k := 129) rfl) (wd hw (k := 127) rfl) (wd hw (k := 128) rfl) A1 G0 (by omega) (by omega) (Or.inr (Nat.le_of_eq g162.symm)) W.safe0 (by rw [hml]; rfl) (by decide) (Nat.le_of_eq rfl) (by decide) d38_27 rfl ?_
  intro T164 h164 P164 K164 G164
  refine W.g_aload (pc1 := 32) P164.q d38_30 rfl rfl rfl ?_
  exact P164.retAN hlk hret rfl rfl rfl d38_32 (by decide) (by decide) ⟨x162, k162, rfl, P164.fr, P164.ext0, Nat.le_of_eq g162.symm, G164.congr (fun j hj => by unfold W.cpy; rw [if_pos (by omega)]; simp)⟩
set_option maxRecDepth 65536 in
set_option maxHeartbeats 40000000 in
theorem c_cor (l : Launch) (Z : State) (a0 : Array Value) (hw : ∀ d ∈ tables_1, d.before a0 Z = true) (t : Addr) (kb : ClassId) (cap n : Nat) (g : Nat → Int32) (hn : n ≤ cap) (hx : n ≤ 68) (h0 : Heap) (A0 : W.Arg Z h0 t kb .byte cap g) (Y0 : Exa Z h0 t "[B") : W.MetN l Z (⟨"java/util/Arrays", "copyOfRange", "([BII)[B"⟩ : MethodName) jdk_65_method_132_code 3 ((Option.some (Jvm.ClassFile.FieldType.array Jvm.ClassFile.FieldType.byte))) [] ({ frames := 2, cells := 1, slots := 68, locals := 48 } : Room) #[.ref t, .int 0, .int (Int32.ofNat n)]  h0 (QCR Z n g h0) := by
  refine W.MetN.mk (ls0 := #[.val (.ref t), .val (.int (0 : Int32)), .val (.int (Int32.ofNat n))]) [] (plainFor_of_name pn_java_util_Arrays) (fun m => by first | (simp [entryFrame, mkF, argsToLocals, Value.category]; done) | rfl) ?_
  intro p e s m below meth c s₁ hml hret hnm hlk P0
  show W.Go p.tables e below _ (s₁.setTop (mkF m 0 #[.val (.ref t), .val (.int (0 : Int32)), .val (.int (Int32.ofNat n))] []))
  have hs := A0.small
  refine W.g_iloadN (pc1 := 1) P0.q d37_0 rfl rfl ?_
  refine W.g_ifN (pc2 := 4) P0.q d37_1 rfl (by decide) ?_
  refine W.g_iloadN (pc1 := 5) P0.q d37_4 rfl rfl ?_
  refine W.g_aloadN (pc1 := 6) P0.q d37_5 rfl rfl rfl ?_
  refine P0.lenG (pc1 := 7) A0 d37_6 rfl ?_
  refine W.g_cmp (pc1 := 17) (pc2 := 10) P0.q d37_7 (by decide) rfl rfl (fun (hq7 : (Int32.ofNat n) = (Int32.ofNat cap)) => ?_) (fun (hq7 : ¬ ((Int32.ofNat n) = (Int32.ofNat cap))) => ?_)
  · obtain rfl : n = cap := (W.eq32 (by omega) hs).mp hq7
    refine W.g_aloadN (pc1 := 18) P0.q d37_17 rfl rfl rfl ?_
    obtain ⟨vs, V, vl, vu, vw⟩ := A0
    refine P0.cloneR (pc1 := 21) (cap := 68) (W := 0) (wd hw (k := 224) rfl) (wd hw (k := 225) rfl) (wd hw (k := 229) rfl) (wd hw (k := 227) rfl) (wd hw (k := 228) rfl) (wd hw (k := 230) rfl) V Y0 (by rw [hml]; rfl) (by decide) (Nat.le_of_eq rfl) (by decide) (by rw [W.n32 vu]; exact hx) (by decide) (by decide) d37_18 rfl ?_
    intro T5 h5 x5 g5 P5 E5 V5 A5
    refine P5.castY (pc1 := 24) (wd hw (k := 231) rfl) (Ins.self A5) d37_21 rfl ?_
    intro T6 P6
    exact P6.retAN hlk hret rfl rfl rfl d37_24 (by decide) (by decide) ⟨x5, kb, rfl, P6.fr, P6.ext0, Nat.le_of_eq g5.symm, vs, V5, vl, vu, vw⟩
  · have hn : n < cap := Nat.lt_of_le_of_ne hn (fun q => hq7 (by rw [q]))
    refine W.g_aloadN (pc1 := 11) P0.q d37_10 rfl rfl rfl ?_
    refine W.g_iloadN (pc1 := 12) P0.q d37_11 rfl rfl ?_
    refine W.g_iloadN (pc1 := 13) P0.q d37_12 rfl rfl ?_
    refine P0.callS (pc1 := 16) (wd hw (k := 191) rfl) (wd hw (k := 192) rfl) (wd hw (k := 150) rfl) (wd hw (k := 193) rfl) (by decide) (W.MetN.pay (W := 0) (c_corb l Z a0 hw t kb cap n g (Nat.le_of_lt hn) hx h0 A0) P0 (wd hw (k := 193) rfl) (wd hw (k := 150) rfl) (by decide) (by decide)) (argsL := [(.ref t), (.int (0 : Int32)), (.int (Int32.ofNat n))]) (st0 := []) (lenOf pd_ABII_R_AB rfl) rfl rfl (Nat.le_of_eq rfl) (by rw [hml]; rfl) (by decide) (by decide) (fun _ _ _ q => by obtain ⟨_, _, _, q2, q3, _⟩ := q; exact ⟨q2.up P0.sz all0, CHr.ext q3 P0.chv⟩) d37_13 rfl ?_
    intro v165 T165 h165 L165 q165 P165
    obtain ⟨a165, k165, rfl, f165, E165, n165, G165⟩ := q165
    show W.Go p.tables e below _ (T165.setTop (mkF m 16 #[.val (.ref t), .val (.int (0 : Int32)), .val (.int (Int32.ofNat n))] [(.ref a165)]))
    exact P165.retAN hlk hret rfl rfl rfl d37_16 (by decide) (by decide) ⟨a165, k165, rfl, P165.fr, P165.ext0, n165, G165⟩
def QSI (Z : State) (x : Addr) (n : Nat) (g : Nat → Int32) (h0 : Heap) (v : Option Value) (h : Heap) (L : List Loc) : Prop := v = none ∧ W.Frw [x] h0.size L ∧ Keep h0 h [x] ∧ ∃ a k, h0.size ≤ a ∧ Exa Z h x "java/lang/String" ∧ Fld Z h x "java/lang/String" "value" "[B" (.ref a) ∧ Fld Z h x "java/lang/String" "coder" "B" (.int 0) ∧ W.Arg Z h a k .byte n g
set_option maxRecDepth 65536 in
set_option maxHeartbeats 40000000 in
theorem c_sin2 (l : Launch) (Z : State) (a0 : Array Value) (hw : ∀ d ∈ tables_1, d.before a0 Z = true) (y : Addr) (x t : Addr) (kb : ClassId) (cap n : Nat) (g : Nat → Int32) (hn : n ≤ cap) (hx : n ≤ 68) (h0 : Heap) (Ey : Exa Z h0 y "java/lang/String") (v0 c0 : Value) (F0 : Fld Z h0 y "java/lang/String" "value" "[B" v0) (C0 : Fld Z h0 y "java/lang/String" "coder" "B" c0) (B0 : Sb Z h0 x t kb cap n g) (EZ : Ext Z.heap h0) (zc : Int32) (fm : Value) (US : UST Z zc fm) : W.MetN l Z (⟨"java/lang/String", "<init>", "(Ljava/lang/AbstractStringBuilder;Ljava/lang/Void;)V"⟩ : MethodName) jdk_42_method_150_code 5 ((Option.none : Option Jvm.ClassFile.FieldType)) [] ({ frames := 3, cells := 1, slots := 68, locals := 66 } : Room) #[.ref y, .ref x, .null]  h0 (QSI Z y n g h0) := by
  refine W.MetN.mk (ls0 := #[.val (.ref y), .val (.ref x), .val .null, .unset, .unset]) [y] (plainFor_of_name pn_java_lang_String) (fun m => by first | (simp [entryFrame, mkF, argsToLocals, Value.category]; done) | rfl) ?_
  intro p e s m below meth c s₁ hml hret hnm hlk P0
  show W.Go p.tables e below _ (s₁.setTop (mkF m 0 #[.val (.ref y), .val (.ref x), .val .null, .unset, .unset] []))
  refine W.g_aloadN (pc1 := 1) P0.q d32_0 rfl rfl rfl ?_
  refine P0.initO (pc1 := 4) (W := 0) (wd hw (k := 19) rfl) (wd hw (k := 20) rfl) (wd hw (k := 21) rfl) (by rw [hml]; rfl) (by decide) (Nat.le_of_eq rfl) (by decide) d32_1 rfl ?_
  intro T166 P166
  refine W.g_aloadN (pc1 := 5) P166.q d32_4 rfl rfl rfl ?_
  refine P166.callV (pc1 := 8) B0.1 (wd hw (k := 170) rfl) (wd hw (k := 171) rfl) (wd hw (k := 173) rfl) (wd hw (k := 172) rfl) (notFace_of_selects (args := #[]) (mvT P166.hz (wd hw (k := 173) rfl))) (by decide) (W.MetN.pay (W := 0) (c_gv l Z a0 hw x t h0 B0.2.1) P166 (wd hw (k := 174) rfl) (wd hw (k := 72) rfl) (by decide) (by decide)) (argsL := []) (st0 := []) (lenOf pd__R_AB rfl) rfl rfl (Nat.le_of_eq rfl) (by rw [hml]; rfl) (by decide) (by decide) (W.Pure.ok P166.chv) d32_5 rfl ?_
  intro v167 T167 h167 L167 q167 P167
  obtain ⟨rfl, rfl, rfl⟩ := q167
  show W.Go p.tables e below _ (T167.setTop (mkF m 8 #[.val (.ref y), .val (.ref x), .val .null, .unset, .unset] [(.ref t)]))
  refine W.g_astoreN (pc1 := 9) (ls2 := #[.val (.ref y), .val (.ref x), .val .null, .val (.ref t), .unset]) P167.q d32_8 rfl rfl rfl ?_
  refine W.g_aloadN (pc1 := 10) P167.q d32_9 rfl rfl rfl ?_
  refine P167.callV (pc1 := 13) B0.1 (wd hw (k := 175) rfl) (wd hw (k := 176) rfl) (wd hw (k := 178) rfl) (wd hw (k := 179) rfl) (W.nf_of (args := #[]) (z := (⟨"java/lang/AbstractStringBuilder", "getValue", "()[B"⟩ : MethodName)) rfl (mvT P167.hz (wd hw (k := 172) rfl)) (notFace_of_selects (args := #[]) (mvT P167.hz (wd hw (k := 173) rfl)))) (by decide) (W.MetN.pay (W := 0) (c_slen l Z a0 hw x t kb cap n g h0 B0) P167 (wd hw (k := 180) rfl) (wd hw (k := 64) rfl) (by decide) (by decide)) (argsL := []) (st0 := []) (lenOf pd__R_I rfl) rfl rfl (Nat.le_of_eq rfl) (by rw [hml]; rfl) (by decide) (by decide) (W.Pure.ok P167.chv) d32_10 rfl ?_
  intro v168 T168 h168 L168 q168 P168
  obtain ⟨rfl, rfl, rfl⟩ := q168
  show W.Go p.tables e below _ (T168.setTop (mkF m 13 #[.val (.ref y), .val (.ref x), .val .null, .val (.ref t), .unset] [(.int (Int32.ofNat n))]))
  refine W.g_istore (pc1 := 15) (ls2 := #[.val (.ref y), .val (.ref x), .val .null, .val (.ref t), .val (.int (Int32.ofNat n))]) P168.q d32_13 rfl rfl ?_
  refine W.g_aloadN (pc1 := 16) P168.q d32_15 rfl rfl rfl ?_
  refine P168.callV (pc1 := 19) B0.1 (wd hw (k := 183) rfl) (wd hw (k := 184) rfl) (wd hw (k := 186) rfl) (wd hw (k := 185) rfl) (notFace_of_selects (args := #[]) (mvT P168.hz (wd hw (k := 186) rfl))) (by decide) (W.MetN.pay (W := 0) (c_alat l Z a0 hw x t kb cap n g h0 B0 EZ zc fm US) P168 (wd hw (k := 187) rfl) (wd hw (k := 72) rfl) (by decide) (by decide)) (argsL := []) (st0 := []) (lenOf pd__R_Z rfl) rfl rfl (Nat.le_of_eq rfl) (by rw [hml]; rfl) (by decide) (by decide) (W.Pure.ok P168.chv) d32_16 rfl ?_
  intro v169 T169 h169 L169 q169 P169
  obtain ⟨rfl, rfl, rfl⟩ := q169
  show W.Go p.tables e below _ (T169.setTop (mkF m 19 #[.val (.ref y), .val (.ref x), .val .null, .val (.ref t), .val (.int (Int32.ofNat n))] [(.int (1 : Int32))]))
  refine W.g_ifN (pc2 := 22) P169.q d32_19 rfl (by decide) ?_
  refine W.g_aloadN (pc1 := 23) P169.q d32_22 rfl rfl rfl ?_
  refine W.g_iconst (pc1 := 24) (v := (0 : Int32)) P169.q d32_23 (by decide) rfl ?_
  refine P169.putF (host := "") (pc1 := 27) (Or.inl (wd hw (k := 24) rfl)) Via.refl C0 Ey (Or.inr ⟨(wd hw (k := 25) rfl), rfl, hnm⟩) (wd hw (k := 10) rfl) (ty := .byte) (by decide) rfl rfl (Or.inl (List.mem_singleton.mpr rfl)) W.safe0 d32_24 rfl ?_
  intro T170 h170 P170 W170
  have Ea := Ey.wr W170
  have Ca := C0.same W170
  have Fa := F0.other W170 (Or.inr (slot_ne (t := .array .byte) (t' := .byte) (Or.inr (wd hw (k := 23) rfl)) (Or.inr (wd hw (k := 25) rfl)) (by decide) (by decide) (by decide)))
  have hty : t ≠ y := by obtain ⟨vs, V, -⟩ := B0.2.2.2.2.1; exact Ne.symm (Exa.neArv Ey V (wd hw (k := 10) rfl))
  have Ta := B0.2.2.2.2.1.other W170 hty
  refine W.g_aloadN (pc1 := 28) P170.q d32_27 rfl rfl rfl ?_
  refine W.g_aloadN (pc1 := 29) P170.q d32_28 rfl rfl rfl ?_
  refine W.g_iconst (pc1 := 30) (v := (0 : Int32)) P170.q d32_29 (by decide) rfl ?_
  refine W.g_iload (pc1 := 32) P170.q d32_30 rfl rfl ?_
  refine P170.callS (pc1 := 35) (wd hw (k := 188) rfl) (wd hw (k := 189) rfl) (wd hw (k := 150) rfl) (wd hw (k := 190) rfl) (by decide) (W.MetN.pay (W := 1) (c_cor l Z a0 hw t kb cap n g hn hx h170 Ta (B0.2.2.2.2.2.wr W170)) P170 (wd hw (k := 190) rfl) (wd hw (k := 150) rfl) (by decide) (by decide)) (argsL := [(.ref t), (.int (0 : Int32)), (.int (Int32.ofNat n))]) (st0 := [(.ref y)]) (lenOf pd_ABII_R_AB rfl) rfl rfl (Nat.le_of_eq rfl) (by rw [hml]; rfl) (by decide) (by decide) (fun _ _ _ q => by obtain ⟨_, _, _, q2, q3, _⟩ := q; exact ⟨q2.up P170.sz all0, CHr.ext q3 P170.chv⟩) d32_32 rfl ?_
  intro v171 T171 h171 L171 q171 P171
  obtain ⟨a171, k171, rfl, f171, E171, n171, G171⟩ := q171
  show W.Go p.tables e below _ (T171.setTop (mkF m 35 #[.val (.ref y), .val (.ref x), .val .null, .val (.ref t), .val (.int (Int32.ofNat n))] [(.ref a171), (.ref y)]))
  have hsz := W170.size
  have hay : a171 ≠ y := Ne.symm (Nat.ne_of_lt (Nat.lt_of_lt_of_le Ea.lt n171))
  refine P171.putF (host := "") (pc1 := 38) (Or.inl (wd hw (k := 22) rfl)) Via.refl (Fa.ext E171) (Ea.ext E171) (Or.inr ⟨(wd hw (k := 23) rfl), rfl, hnm⟩) (wd hw (k := 10) rfl) (ty := (.array .byte)) (by decide) rfl rfl (Or.inl (List.mem_singleton.mpr rfl)) W.safe0 d32_35 rfl ?_
  intro T172 h172 P172 W172
  refine W.g_goto (pc1 := 97) P172.q d32_38 (by decide) rfl ?_
  exact P172.retN hlk hret d32_97 (by decide) (by decide) ⟨rfl, P172.fr, P172.keep, a171, k171, by omega, (Ea.ext E171).wr W172, (Fa.ext E171).same W172, (Ca.ext E171).other W172 (Or.inr (slot_ne (t := .byte) (t' := .array .byte) (Or.inr (wd hw (k := 25) rfl)) (Or.inr (wd hw (k := 23) rfl)) (by decide) (by decide) (by decide))), G171.other W172 hay⟩
set_option maxRecDepth 65536 in
set_option maxHeartbeats 40000000 in
theorem c_sin1 (l : Launch) (Z : State) (a0 : Array Value) (hw : ∀ d ∈ tables_1, d.before a0 Z = true) (y : Addr) (x t : Addr) (kb : ClassId) (cap n : Nat) (g : Nat → Int32) (hn : n ≤ cap) (hx : n ≤ 68) (h0 : Heap) (Ey : Exa Z h0 y "java/lang/String") (v0 c0 : Value) (F0 : Fld Z h0 y "java/lang/String" "value" "[B" v0) (C0 : Fld Z h0 y "java/lang/String" "coder" "B" c0) (B0 : Sb Z h0 x t kb cap n g) (EZ : Ext Z.heap h0) (zc : Int32) (fm : Value) (US : UST Z zc fm) : W.MetN l Z (⟨"java/lang/String", "<init>", "(Ljava/lang/StringBuilder;)V"⟩ : MethodName) jdk_42_method_53_code 2 ((Option.none : Option Jvm.ClassFile.FieldType)) [] ({ frames := 4, cells := 1, slots := 68, locals := 84 } : Room) #[.ref y, .ref x]  h0 (QSI Z y n g h0) := by
  refine W.MetN.mk (ls0 := #[.val (.ref y), .val (.ref x)]) [y] (plainFor_of_name pn_java_lang_String) (fun m => by first | (simp [entryFrame, mkF, argsToLocals, Value.category]; done) | rfl) ?_
  intro p e s m below meth c s₁ hml hret hnm hlk P0
  show W.Go p.tables e below _ (s₁.setTop (mkF m 0 #[.val (.ref y), .val (.ref x)] []))
  refine W.g_aloadN (pc1 := 1) P0.q d31_0 rfl rfl rfl ?_
  refine W.g_aloadN (pc1 := 2) P0.q d31_1 rfl rfl rfl ?_
  refine W.g_null (pc1 := 3) P0.q d31_2 rfl ?_
  refine P0.callN (pc1 := 6) rfl (wd hw (k := 167) rfl) (wd hw (k := 168) rfl) (wd hw (k := 169) rfl) (by decide) (W.MetN.pay (W := 0) (c_sin2 l Z a0 hw y x t kb cap n g hn hx h0 Ey v0 c0 F0 C0 B0 EZ zc fm US) P0 (wd hw (k := 169) rfl) (wd hw (k := 2) rfl) (by decide) (by decide)) (argsL := [(.ref x), .null]) (st0 := []) (lenOf pd_Ljava_lang_AbstractStringBuilderLjava_lang_Void_R_V rfl) rfl rfl (Nat.le_of_eq rfl) (by rw [hml]; rfl) (by decide) (by decide) (fun _ _ _ q => ⟨q.2.1, CHr.keep q.2.2.1 (sfS W.safe0 sf0) P0.chv⟩) d31_3 rfl ?_
  intro v173 T173 h173 L173 q173 P173
  obtain ⟨rfl, f173, K173, q173⟩ := q173
  show W.Go p.tables e below _ (T173.setTop (mkF m 6 #[.val (.ref y), .val (.ref x)] []))
  exact P173.retN hlk hret d31_6 (by decide) (by decide) ⟨rfl, P173.fr, P173.keep, q173⟩
def QTS (Z : State) (n : Nat) (g : Nat → Int32) (h0 : Heap) (v : Option Value) (h : Heap) (L : List Loc) : Prop := ∃ y a k, v = some (.ref y) ∧ W.Frw [] h0.size L ∧ Ext h0 h ∧ Exa Z h y "java/lang/String" ∧ Fld Z h y "java/lang/String" "value" "[B" (.ref a) ∧ Fld Z h y "java/lang/String" "coder" "B" (.int 0) ∧ W.Arg Z h a k .byte n g
set_option maxRecDepth 65536 in
set_option maxHeartbeats 40000000 in
theorem c_tos (l : Launch) (Z : State) (a0 : Array Value) (hw : ∀ d ∈ tables_1, d.before a0 Z = true) (x t : Addr) (kb : ClassId) (cap n : Nat) (g : Nat → Int32) (hn : n ≤ cap) (hx : n ≤ 68) (h0 : Heap) (B0 : Sb Z h0 x t kb cap n g) (EZ : Ext Z.heap h0) (zc : Int32) (fm : Value) (US : UST Z zc fm) : W.MetN l Z (⟨"java/lang/StringBuilder", "toString", "()Ljava/lang/String;"⟩ : MethodName) jdk_67_method_42_code 1 ((Option.some (Jvm.ClassFile.FieldType.object "java/lang/String"))) [] ({ frames := 5, cells := 2, slots := 72, locals := 102 } : Room) #[.ref x]  h0 (QTS Z n g h0) := by
  refine W.MetN.mk (ls0 := #[.val (.ref x)]) [] (plainFor_of_name pn_java_lang_StringBuilder) (fun m => by first | (simp [entryFrame, mkF, argsToLocals, Value.category]; done) | rfl) ?_
  intro p e s m below meth c s₁ hml hret hnm hlk P0
  show W.Go p.tables e below _ (s₁.setTop (mkF m 0 #[.val (.ref x)] []))
  refine P0.newO (pc1 := 3) (wd hw (k := 163) rfl) (wd hw (k := 10) rfl) (wd hw (k := 2) rfl) (by decide) (by decide) d30_0 rfl ?_
  intro T174 h174 x174 g174 P174 E174 A174 D174 U174
  have Fv : Fld Z h174 x174 "java/lang/String" "value" "[B" .null := D174 (Or.inr (wd hw (k := 23) rfl)) (ty := .array .byte) (by decide)
  have Fc : Fld Z h174 x174 "java/lang/String" "coder" "B" (.int 0) := D174 (Or.inr (wd hw (k := 25) rfl)) (ty := .byte) (by decide)
  refine W.g_dup (pc1 := 4) P174.q d30_3 rfl rfl ?_
  refine W.g_aloadN (pc1 := 5) P174.q d30_4 rfl rfl rfl ?_
  refine P174.callN (pc1 := 8) rfl (wd hw (k := 164) rfl) (wd hw (k := 165) rfl) (wd hw (k := 166) rfl) (by decide) (W.MetN.pay (W := 1) (c_sin1 l Z a0 hw x174 x t kb cap n g hn hx h174 A174 _ _ Fv Fc (B0.ext E174) (P174.extZ EZ all0) zc fm US) P174 (wd hw (k := 166) rfl) (wd hw (k := 2) rfl) (by decide) (by decide)) (argsL := [(.ref x)]) (st0 := [(.ref x174)]) (lenOf pd_Ljava_lang_StringBuilder_R_V rfl) rfl rfl (Nat.le_of_eq rfl) (by rw [hml]; rfl) (by decide) (by decide) (fun _ _ _ q => ⟨q.2.1.up P174.sz (allS (Or.inr (Nat.le_of_eq g174.symm)) all0), CHr.keep q.2.2.1 (sfS W.safe0 sf0) P174.chv⟩) d30_5 rfl ?_
  intro v175 T175 h175 L175 q175 P175
  obtain ⟨rfl, f175, K175, a175, k175, n175, A175, F175, C175, G175⟩ := q175
  show W.Go p.tables e below _ (T175.setTop (mkF m 8 #[.val (.ref x)] [(.ref x174)]))
  exact P175.retAN hlk hret rfl rfl rfl d30_8 (by decide) (by decide) ⟨x174, a175, k175, rfl, P175.fr, P175.ext0, A175, F175, C175, G175⟩
def QS (Z : State) (cs : List Int32) (h0 : Heap) (v : Option Value) (h : Heap) (L : List Loc) : Prop := ∃ y, v = some (.ref y) ∧ W.Frw [] h0.size L ∧ Ext h0 h ∧ W.Str Z h y cs
set_option maxRecDepth 65536 in
set_option maxHeartbeats 40000000 in
theorem c_can (l : Launch) (Z : State) (a0 : Array Value) (hw : ∀ d ∈ tables_1, d.before a0 Z = true) (c9 : Int32) (hb : By c9) (h0 : Heap) : W.MetN l Z (⟨"java/lang/StringLatin1", "canEncode", "(C)Z"⟩ : MethodName) jdk_43_method_3_code 1 ((Option.some Jvm.ClassFile.FieldType.boolean)) [] ({ frames := 0, cells := 0, slots := 0, locals := 0 } : Room) #[.int c9]  h0 (W.Pure (some (.int 1)) h0) := by
  refine W.MetN.mk (ls0 := #[.val (.int c9)]) [] (plainFor_of_name pn_java_lang_StringLatin1) (fun m => by first | (simp [entryFrame, mkF, argsToLocals, Value.category]; done) | rfl) ?_
  intro p e s m below meth c s₁ hml hret hnm hlk P0
  show W.Go p.tables e below _ (s₁.setTop (mkF m 0 #[.val (.int c9)] []))
  refine W.g_iloadN (pc1 := 1) P0.q d2_0 rfl rfl ?_
  refine W.g_sipush (pc1 := 4) (v := (255 : Int32)) P0.q d2_1 (by decide) rfl ?_
  refine W.g_cmpN (pc2 := 7) P0.q d2_4 rfl hb.2 ?_
  refine W.g_iconst (pc1 := 8) (v := (1 : Int32)) P0.q d2_7 (by decide) rfl ?_
  refine W.g_goto (pc1 := 12) P0.q d2_8 (by decide) rfl ?_
  exact P0.retVN hlk hret (Or.inl rfl) d2_12 (by decide) (by decide) ⟨rfl, rfl, rfl⟩
def QTo (Z : State) (c : Int32) (h0 : Heap) (v : Option Value) (h : Heap) (L : List Loc) : Prop := ∃ a k, v = some (.ref a) ∧ W.Frw [] h0.size L ∧ Ext h0 h ∧ h0.size ≤ a ∧ W.Arg Z h a k .byte 1 (fun _ => StrChars.lo8 c)
set_option maxRecDepth 65536 in
set_option maxHeartbeats 40000000 in
theorem c_tob (l : Launch) (Z : State) (a0 : Array Value) (hw : ∀ d ∈ tables_1, d.before a0 Z = true) (c9 : Int32) (h0 : Heap) : W.MetN l Z (⟨"java/lang/StringLatin1", "toBytes", "(C)[B"⟩ : MethodName) jdk_43_method_46_code 1 ((Option.some (Jvm.ClassFile.FieldType.array Jvm.ClassFile.FieldType.byte))) [] ({ frames := 0, cells := 1, slots := 1, locals := 0 } : Room) #[.int c9]  h0 (QTo Z c9 h0) := by
  refine W.MetN.mk (ls0 := #[.val (.int c9)]) [] (plainFor_of_name pn_java_lang_StringLatin1) (fun m => by first | (simp [entryFrame, mkF, argsToLocals, Value.category]; done) | rfl) ?_
  intro p e s m below meth c s₁ hml hret hnm hlk P0
  show W.Go p.tables e below _ (s₁.setTop (mkF m 0 #[.val (.int c9)] []))
  refine W.g_iconst (pc1 := 1) (v := (1 : Int32)) P0.q d3_0 (by decide) rfl ?_
  refine P0.newP (pc1 := 3) (cap := 1) (wd hw (k := 14) rfl) (by decide) (by decide) (by decide) (by decide) (by decide) d3_1 rfl ?_
  intro T176 h176 x176 k176 g176 P176 E176 V176
  have G0 : W.Arg Z h176 x176 k176 .byte 1 (fun _ => 0) := W.Arg.new (by decide) V176
  refine W.g_dup (pc1 := 4) P176.q d3_3 rfl rfl ?_
  refine W.g_iconst (pc1 := 5) (v := (0 : Int32)) P176.q d3_4 (by decide) rfl ?_
  refine W.g_iloadN (pc1 := 6) P176.q d3_5 rfl rfl ?_
  refine W.g_i2b (pc1 := 7) P176.q d3_6 rfl ?_
  show W.Go p.tables e below _ (T176.setTop (mkF m 7 #[.val (.int c9)] [(.int c9.toInt8.toInt32), (.int (Int32.ofNat 0)), (.ref x176), (.ref x176)]))
  refine P176.stBg (pc1 := 8) G0 (i := 0) (by decide) (Or.inr (Nat.le_of_eq g176.symm)) W.safe0 d3_7 rfl ?_
  intro T177 h177 P177 W177 G177
  exact P177.retAN hlk hret rfl rfl rfl d3_8 (by decide) (by decide) ⟨x176, k176, rfl, P177.fr, P177.ext0, Nat.le_of_eq g176.symm, G177.congr (fun j hj => by have e : j = 0 := (by omega); rw [e]; exact W.nar8 c9)⟩
def QBB (Z : State) (x t : Addr) (h0 : Heap) (v : Option Value) (h : Heap) (L : List Loc) : Prop := v = none ∧ W.Frw [x] h0.size L ∧ Keep h0 h [x] ∧ Exa Z h x "java/lang/String" ∧ Fld Z h x "java/lang/String" "value" "[B" (.ref t) ∧ Fld Z h x "java/lang/String" "coder" "B" (.int 0)
set_option maxRecDepth 65536 in
set_option maxHeartbeats 40000000 in
theorem c_sbb (l : Launch) (Z : State) (a0 : Array Value) (hw : ∀ d ∈ tables_1, d.before a0 Z = true) (x t : Addr) (h0 : Heap) (E0 : Exa Z h0 x "java/lang/String") (v0 c0 : Value) (F0 : Fld Z h0 x "java/lang/String" "value" "[B" v0) (C0 : Fld Z h0 x "java/lang/String" "coder" "B" c0) : W.MetN l Z (⟨"java/lang/String", "<init>", "([BB)V"⟩ : MethodName) jdk_42_method_151_code 3 ((Option.none : Option Jvm.ClassFile.FieldType)) [] ({ frames := 1, cells := 0, slots := 0, locals := 14 } : Room) #[.ref x, .ref t, .int 0]  h0 (QBB Z x t h0) := by
  refine W.MetN.mk (ls0 := #[.val (.ref x), .val (.ref t), .val (.int (0 : Int32))]) [x] (plainFor_of_name pn_java_lang_String) (fun m => by first | (simp [entryFrame, mkF, argsToLocals, Value.category]; done) | rfl) ?_
  intro p e s m below meth c s₁ hml hret hnm hlk P0
  show W.Go p.tables e below _ (s₁.setTop (mkF m 0 #[.val (.ref x), .val (.ref t), .val (.int (0 : Int32))] []))
  refine W.g_aloadN (pc1 := 1) P0.q d4_0 rfl rfl rfl ?_
  refine P0.initO (pc1 := 4) (W := 0) (wd hw (k := 19) rfl) (wd hw (k := 20) rfl) (wd hw (k := 21) rfl) (by rw [hml]; rfl) (by decide) (Nat.le_of_eq rfl) (by decide) d4_1 rfl ?_
  intro T178 P178
  refine W.g_aloadN (pc1 := 5) P178.q d4_4 rfl rfl rfl ?_
  refine W.g_aloadN (pc1 := 6) P178.q d4_5 rfl rfl rfl ?_
  refine P178.putF (host := "") (pc1 := 9) (Or.inl (wd hw (k := 22) rfl)) Via.refl F0 E0 (Or.inr ⟨(wd hw (k := 23) rfl), rfl, hnm⟩) (wd hw (k := 10) rfl) (ty := (.array .byte)) (by decide) rfl rfl (Or.inl (List.mem_singleton.mpr rfl)) W.safe0 d4_6 rfl ?_
  intro T179 h179 P179 W179
  have Ea := E0.wr W179
  have Fa := F0.same W179
  have Ca := C0.other W179 (Or.inr (slot_ne (t := .byte) (t' := .array .byte) (Or.inr (wd hw (k := 25) rfl)) (Or.inr (wd hw (k := 23) rfl)) (by decide) (by decide) (by decide)))
  refine W.g_aloadN (pc1 := 10) P179.q d4_9 rfl rfl rfl ?_
  refine W.g_iloadN (pc1 := 11) P179.q d4_10 rfl rfl ?_
  refine P179.putF (host := "") (pc1 := 14) (Or.inl (wd hw (k := 24) rfl)) Via.refl Ca Ea (Or.inr ⟨(wd hw (k := 25) rfl), rfl, hnm⟩) (wd hw (k := 10) rfl) (ty := .byte) (by decide) rfl rfl (Or.inl (List.mem_singleton.mpr rfl)) W.safe0 d4_11 rfl ?_
  intro T180 h180 P180 W180
  exact P180.retN hlk hret d4_14 (by decide) (by decide) ⟨rfl, P180.fr, P180.keep, Ea.wr W180, Fa.other W180 (Or.inr (slot_ne (t := .array .byte) (t' := .byte) (Or.inr (wd hw (k := 23) rfl)) (Or.inr (wd hw (k := 25) rfl)) (by decide) (by decide) (by decide))), Ca.same W180⟩
set_option maxRecDepth 65536 in
set_option maxHeartbeats 40000000 in
theorem c_vof (l : Launch) (Z : State) (a0 : Array Value) (hw : ∀ d ∈ tables_1, d.before a0 Z = true) (c9 : Int32) (hb : By c9) (h0 : Heap) (EZ : Ext Z.heap h0) (zc : Int32) (fm : Value) (US : UST Z zc fm) : W.MetN l Z (⟨"java/lang/String", "valueOf", "(C)Ljava/lang/String;"⟩ : MethodName) jdk_42_method_139_code 1 ((Option.some (Jvm.ClassFile.FieldType.object "java/lang/String"))) [] ({ frames := 2, cells := 2, slots := 5, locals := 32 } : Room) #[.int c9]  h0 (QS Z [c9] h0) := by
  refine W.MetN.mk (ls0 := #[.val (.int c9)]) [] (plainFor_of_name pn_java_lang_String) (fun m => by first | (simp [entryFrame, mkF, argsToLocals, Value.category]; done) | rfl) ?_
  intro p e s m below meth c s₁ hml hret hnm hlk P0
  show W.Go p.tables e below _ (s₁.setTop (mkF m 0 #[.val (.int c9)] []))
  refine P0.getS (pc1 := 3) (wd hw (k := 4) rfl) Via.refl (US.2.1.ext EZ) d1_0 rfl ?_
  intro T181 P181
  refine W.g_ifN (pc2 := 6) P181.q d1_3 rfl US.1 ?_
  refine W.g_iloadN (pc1 := 7) P181.q d1_6 rfl rfl ?_
  refine P181.callS (pc1 := 10) (wd hw (k := 5) rfl) (wd hw (k := 6) rfl) (wd hw (k := 7) rfl) (wd hw (k := 8) rfl) (by decide) (W.MetN.pay (W := 0) (c_can l Z a0 hw c9 hb h0) P181 (wd hw (k := 8) rfl) (wd hw (k := 7) rfl) (by decide) (by decide)) (argsL := [(.int c9)]) (st0 := []) (lenOf pd_C_R_Z rfl) rfl rfl (Nat.le_of_eq rfl) (by rw [hml]; rfl) (by decide) (by decide) (W.Pure.ok P181.chv) d1_7 rfl ?_
  intro v182 T182 h182 L182 q182 P182
  obtain ⟨rfl, rfl, rfl⟩ := q182
  show W.Go p.tables e below _ (T182.setTop (mkF m 10 #[.val (.int c9)] [(.int (1 : Int32))]))
  refine W.g_ifN (pc2 := 13) P182.q d1_10 rfl (by decide) ?_
  refine P182.newO (pc1 := 16) (wd hw (k := 9) rfl) (wd hw (k := 10) rfl) (wd hw (k := 2) rfl) (by decide) (by decide) d1_13 rfl ?_
  intro T183 h183 x183 g183 P183 E183 A183 D183 U183
  have Fv : Fld Z h183 x183 "java/lang/String" "value" "[B" .null := D183 (Or.inr (wd hw (k := 23) rfl)) (ty := .array .byte) (by decide)
  have Fc : Fld Z h183 x183 "java/lang/String" "coder" "B" (.int 0) := D183 (Or.inr (wd hw (k := 25) rfl)) (ty := .byte) (by decide)
  refine W.g_dup (pc1 := 17) P183.q d1_16 rfl rfl ?_
  refine W.g_iloadN (pc1 := 18) P183.q d1_17 rfl rfl ?_
  refine P183.callS (pc1 := 21) (wd hw (k := 11) rfl) (wd hw (k := 12) rfl) (wd hw (k := 7) rfl) (wd hw (k := 13) rfl) (by decide) (W.MetN.pay (W := 2) (c_tob l Z a0 hw c9 h183) P183 (wd hw (k := 13) rfl) (wd hw (k := 7) rfl) (by decide) (by decide)) (argsL := [(.int c9)]) (st0 := [(.ref x183), (.ref x183)]) (lenOf pd_C_R_AB rfl) rfl rfl (Nat.le_of_eq rfl) (by rw [hml]; rfl) (by decide) (by decide) (fun _ _ _ q => by obtain ⟨_, _, _, q2, q3, _⟩ := q; exact ⟨q2.up P183.sz all0, CHr.ext q3 P183.chv⟩) d1_18 rfl ?_
  intro v184 T184 h184 L184 q184 P184
  obtain ⟨a184, k184, rfl, f184, E184, n184, G184⟩ := q184
  show W.Go p.tables e below _ (T184.setTop (mkF m 21 #[.val (.int c9)] [(.ref a184), (.ref x183), (.ref x183)]))
  refine W.g_iconst (pc1 := 22) (v := (0 : Int32)) P184.q d1_21 (by decide) rfl ?_
  refine P184.callN (pc1 := 25) rfl (wd hw (k := 15) rfl) (wd hw (k := 16) rfl) (wd hw (k := 18) rfl) (by decide) (W.MetN.pay (W := 1) (c_sbb l Z a0 hw x183 a184 h184 (A183.ext E184) _ _ (Fv.ext E184) (Fc.ext E184)) P184 (wd hw (k := 18) rfl) (wd hw (k := 2) rfl) (by decide) (by decide)) (argsL := [(.ref a184), (.int (0 : Int32))]) (st0 := [(.ref x183)]) (lenOf pd_ABB_R_V rfl) rfl rfl (Nat.le_of_eq rfl) (by rw [hml]; rfl) (by decide) (by decide) (fun _ _ _ q => ⟨q.2.1.up P184.sz (allS (Or.inr (Nat.le_of_eq g183.symm)) all0), CHr.keep q.2.2.1 (sfS W.safe0 sf0) P184.chv⟩) d1_22 rfl ?_
  intro v185 T185 h185 L185 q185 P185
  obtain ⟨rfl, f185, K185, A185, F185, C185⟩ := q185
  show W.Go p.tables e below _ (T185.setTop (mkF m 25 #[.val (.int c9)] [(.ref x183)]))
  have hax : a184 ≠ x183 := Ne.symm (Nat.ne_of_lt (Nat.lt_of_lt_of_le A183.lt n184))
  exact P185.retAN hlk hret rfl rfl rfl d1_25 (by decide) (by decide) ⟨x183, rfl, P185.fr, P185.ext0, own_toStr A185 F185 C185 (G184.keep K185 (ninS hax nin0)) rfl (by decide) (fun i hi => by have e : i = 0 := (by omega); rw [e]; rfl) (List.forall_mem_cons.mpr ⟨hb, fun c hc => absurd hc List.not_mem_nil⟩)⟩
def own_core (a b t : Int32) : List Int32 := [97, 98, 115, 40, a, 32, 45, 32, b, 41, 32, 60, 61, 32, t, 32, 42, 32, 97, 98, 115, 40, a, 41, 32, 111, 114, 32, 97, 98, 115, 40, a, 32, 45, 32, b, 41, 32, 60, 61, 32, t, 32, 42, 32, 97, 98, 115, 40, b, 41]
def own_part (cs : List Int32) (o k : Nat) (f : Nat → Int32) : Nat → Int32 := fun j => if o ≤ j ∧ j < o + k then cs.getD (j - o) 0 else f j
theorem own_pstep {cs : List Int32} {o k : Nat} {f : Nat → Int32} {v : Int32} (hv : cs.getD k 0 = v) (j : Nat) : W.upd (own_part cs o k f) (o + k) v j = own_part cs o (k + 1) f j := by
  unfold W.upd own_part
  by_cases q : j = o + k
  · subst q; rw [if_pos rfl, if_pos (by omega), show o + k - o = k by omega, hv]
  · rw [if_neg q]
    by_cases r : o ≤ j ∧ j < o + k
    · rw [if_pos r, if_pos (by omega)]
    · rw [if_neg r, if_neg (by omega)]
theorem own_p0 {cs : List Int32} {o : Nat} {f : Nat → Int32} (j : Nat) : f j = own_part cs o 0 f j := by unfold own_part; rw [if_neg (by omega)]
def QPt (Z : State) (d : Addr) (kd : ClassId) (n : Nat) (f : Nat → Int32) (h0 : Heap) (v : Option Value) (h : Heap) (L : List Loc) : Prop := v = none ∧ W.Frw [d] h0.size L ∧ Keep h0 h [d] ∧ W.Arg Z h d kd .char n f
theorem own_b (k : Int32) (h : (¬ k < 0 ∧ ¬ (255 : Int32) < k) := by decide) : By k := h
set_option maxRecDepth 65536 in
set_option maxHeartbeats 40000000 in
theorem c_core (l : Launch) (Z : State) (a0 : Array Value) (hw : ∀ d ∈ tables_1, d.before a0 Z = true) (ca cb ct : Int32) (ba : By ca) (bb : By cb) (bt : By ct) (d : Addr) (kd : ClassId) (n o : Nat) (f : Nat → Int32) (h0 : Heap) (A : W.Arg Z h0 d kd .char n f) (ho : o + 52 ≤ n) : W.MetN l Z (⟨x.cls, "core", "([CICCC)V"⟩ : MethodName) method_2_code 5 ((Option.none : Option Jvm.ClassFile.FieldType)) [] ({ frames := 0, cells := 0, slots := 0, locals := 0 } : Room) #[.ref d, .int (Int32.ofNat o), .int ca, .int cb, .int ct]  h0 (QPt Z d kd n (own_part (own_core ca cb ct) o 52 f) h0) := by
  refine W.MetN.mk (ls0 := #[.val (.ref d), .val (.int (Int32.ofNat o)), .val (.int ca), .val (.int cb), .val (.int ct)]) [d] (plainFor_of_name pn_law) (fun m => by first | (simp [entryFrame, mkF, argsToLocals, Value.category]; done) | rfl) ?_
  intro p e s m below meth c s₁ hml hret hnm hlk P0
  show W.Go p.tables e below _ (s₁.setTop (mkF m 0 #[.val (.ref d), .val (.int (Int32.ofNat o)), .val (.int ca), .val (.int cb), .val (.int ct)] []))
  have A_0 := A.congr (g := own_part (own_core ca cb ct) o 0 f) (fun j _ => own_p0 j)
  refine W.g_aloadN (pc1 := 1) P0.q d7_0 rfl rfl rfl ?_
  refine W.g_iloadN (pc1 := 2) P0.q d7_1 rfl rfl ?_
  refine W.g_bipush (pc1 := 4) (v := (97 : Int32)) P0.q d7_2 (by decide) rfl ?_
  show W.Go p.tables e below _ (s₁.setTop (mkF m 4 #[.val (.ref d), .val (.int (Int32.ofNat o)), .val (.int ca), .val (.int cb), .val (.int ct)] [(.int (97 : Int32)), (.int (Int32.ofNat (o + 0))), (.ref d)]))
  refine P0.stCg (pc1 := 5) (x := (97 : Int32)) A_0 (i := o + 0) (by omega) (Or.inl (List.mem_singleton.mpr rfl)) W.safe0 d7_4 rfl ?_
  intro T186 h186 P186 W186 G186
  have A_1 : W.Arg Z h186 d kd .char n (own_part (own_core ca cb ct) o 1 f) := G186.congr (fun j _ => own_pstep (show (own_core ca cb ct).getD 0 0 = _ from (own_narc ((own_b 97)).ch).symm) j)
  refine W.g_aloadN (pc1 := 6) P186.q d7_5 rfl rfl rfl ?_
  refine W.g_iloadN (pc1 := 7) P186.q d7_6 rfl rfl ?_
  refine W.g_iconst (pc1 := 8) (v := (1 : Int32)) P186.q d7_7 (by decide) rfl ?_
  refine W.g_iadd (pc1 := 9) P186.q d7_8 rfl ?_
  refine W.g_bipush (pc1 := 11) (v := (98 : Int32)) P186.q d7_9 (by decide) rfl ?_
  rw [show Int32.ofNat o + (1 : Int32) = Int32.ofNat (o + 1) from own_add o 1]
  show W.Go p.tables e below _ (T186.setTop (mkF m 11 #[.val (.ref d), .val (.int (Int32.ofNat o)), .val (.int ca), .val (.int cb), .val (.int ct)] [(.int (98 : Int32)), (.int (Int32.ofNat (o + 1))), (.ref d)]))
  refine P186.stCg (pc1 := 12) (x := (98 : Int32)) A_1 (i := o + 1) (by omega) (Or.inl (List.mem_singleton.mpr rfl)) W.safe0 d7_11 rfl ?_
  intro T187 h187 P187 W187 G187
  have A_2 : W.Arg Z h187 d kd .char n (own_part (own_core ca cb ct) o 2 f) := G187.congr (fun j _ => own_pstep (show (own_core ca cb ct).getD 1 0 = _ from (own_narc ((own_b 98)).ch).symm) j)
  refine W.g_aloadN (pc1 := 13) P187.q d7_12 rfl rfl rfl ?_
  refine W.g_iloadN (pc1 := 14) P187.q d7_13 rfl rfl ?_
  refine W.g_iconst (pc1 := 15) (v := (2 : Int32)) P187.q d7_14 (by decide) rfl ?_
  refine W.g_iadd (pc1 := 16) P187.q d7_15 rfl ?_
  refine W.g_bipush (pc1 := 18) (v := (115 : Int32)) P187.q d7_16 (by decide) rfl ?_
  rw [show Int32.ofNat o + (2 : Int32) = Int32.ofNat (o + 2) from own_add o 2]
  show W.Go p.tables e below _ (T187.setTop (mkF m 18 #[.val (.ref d), .val (.int (Int32.ofNat o)), .val (.int ca), .val (.int cb), .val (.int ct)] [(.int (115 : Int32)), (.int (Int32.ofNat (o + 2))), (.ref d)]))
  refine P187.stCg (pc1 := 19) (x := (115 : Int32)) A_2 (i := o + 2) (by omega) (Or.inl (List.mem_singleton.mpr rfl)) W.safe0 d7_18 rfl ?_
  intro T188 h188 P188 W188 G188
  have A_3 : W.Arg Z h188 d kd .char n (own_part (own_core ca cb ct) o 3 f) := G188.congr (fun j _ => own_pstep (show (own_core ca cb ct).getD 2 0 = _ from (own_narc ((own_b 115)).ch).symm) j)
  refine W.g_aloadN (pc1 := 20) P188.q d7_19 rfl rfl rfl ?_
  refine W.g_iloadN (pc1 := 21) P188.q d7_20 rfl rfl ?_
  refine W.g_iconst (pc1 := 22) (v := (3 : Int32)) P188.q d7_21 (by decide) rfl ?_
  refine W.g_iadd (pc1 := 23) P188.q d7_22 rfl ?_
  refine W.g_bipush (pc1 := 25) (v := (40 : Int32)) P188.q d7_23 (by decide) rfl ?_
  rw [show Int32.ofNat o + (3 : Int32) = Int32.ofNat (o + 3) from own_add o 3]
  show W.Go p.tables e below _ (T188.setTop (mkF m 25 #[.val (.ref d), .val (.int (Int32.ofNat o)), .val (.int ca), .val (.int cb), .val (.int ct)] [(.int (40 : Int32)), (.int (Int32.ofNat (o + 3))), (.ref d)]))
  refine P188.stCg (pc1 := 26) (x := (40 : Int32)) A_3 (i := o + 3) (by omega) (Or.inl (List.mem_singleton.mpr rfl)) W.safe0 d7_25 rfl ?_
  intro T189 h189 P189 W189 G189
  have A_4 : W.Arg Z h189 d kd .char n (own_part (own_core ca cb ct) o 4 f) := G189.congr (fun j _ => own_pstep (show (own_core ca cb ct).getD 3 0 = _ from (own_narc ((own_b 40)).ch).symm) j)
  refine W.g_aloadN (pc1 := 27) P189.q d7_26 rfl rfl rfl ?_
  refine W.g_iloadN (pc1 := 28) P189.q d7_27 rfl rfl ?_
  refine W.g_iconst (pc1 := 29) (v := (4 : Int32)) P189.q d7_28 (by decide) rfl ?_
  refine W.g_iadd (pc1 := 30) P189.q d7_29 rfl ?_
  refine W.g_iloadN (pc1 := 31) P189.q d7_30 rfl rfl ?_
  rw [show Int32.ofNat o + (4 : Int32) = Int32.ofNat (o + 4) from own_add o 4]
  show W.Go p.tables e below _ (T189.setTop (mkF m 31 #[.val (.ref d), .val (.int (Int32.ofNat o)), .val (.int ca), .val (.int cb), .val (.int ct)] [(.int ca), (.int (Int32.ofNat (o + 4))), (.ref d)]))
  refine P189.stCg (pc1 := 32) (x := ca) A_4 (i := o + 4) (by omega) (Or.inl (List.mem_singleton.mpr rfl)) W.safe0 d7_31 rfl ?_
  intro T190 h190 P190 W190 G190
  have A_5 : W.Arg Z h190 d kd .char n (own_part (own_core ca cb ct) o 5 f) := G190.congr (fun j _ => own_pstep (show (own_core ca cb ct).getD 4 0 = _ from (own_narc (ba).ch).symm) j)
  refine W.g_aloadN (pc1 := 33) P190.q d7_32 rfl rfl rfl ?_
  refine W.g_iloadN (pc1 := 34) P190.q d7_33 rfl rfl ?_
  refine W.g_iconst (pc1 := 35) (v := (5 : Int32)) P190.q d7_34 (by decide) rfl ?_
  refine W.g_iadd (pc1 := 36) P190.q d7_35 rfl ?_
  refine W.g_bipush (pc1 := 38) (v := (32 : Int32)) P190.q d7_36 (by decide) rfl ?_
  rw [show Int32.ofNat o + (5 : Int32) = Int32.ofNat (o + 5) from own_add o 5]
  show W.Go p.tables e below _ (T190.setTop (mkF m 38 #[.val (.ref d), .val (.int (Int32.ofNat o)), .val (.int ca), .val (.int cb), .val (.int ct)] [(.int (32 : Int32)), (.int (Int32.ofNat (o + 5))), (.ref d)]))
  refine P190.stCg (pc1 := 39) (x := (32 : Int32)) A_5 (i := o + 5) (by omega) (Or.inl (List.mem_singleton.mpr rfl)) W.safe0 d7_38 rfl ?_
  intro T191 h191 P191 W191 G191
  have A_6 : W.Arg Z h191 d kd .char n (own_part (own_core ca cb ct) o 6 f) := G191.congr (fun j _ => own_pstep (show (own_core ca cb ct).getD 5 0 = _ from (own_narc ((own_b 32)).ch).symm) j)
  refine W.g_aloadN (pc1 := 40) P191.q d7_39 rfl rfl rfl ?_
  refine W.g_iloadN (pc1 := 41) P191.q d7_40 rfl rfl ?_
  refine W.g_bipush (pc1 := 43) (v := (6 : Int32)) P191.q d7_41 (by decide) rfl ?_
  refine W.g_iadd (pc1 := 44) P191.q d7_43 rfl ?_
  refine W.g_bipush (pc1 := 46) (v := (45 : Int32)) P191.q d7_44 (by decide) rfl ?_
  rw [show Int32.ofNat o + (6 : Int32) = Int32.ofNat (o + 6) from own_add o 6]
  show W.Go p.tables e below _ (T191.setTop (mkF m 46 #[.val (.ref d), .val (.int (Int32.ofNat o)), .val (.int ca), .val (.int cb), .val (.int ct)] [(.int (45 : Int32)), (.int (Int32.ofNat (o + 6))), (.ref d)]))
  refine P191.stCg (pc1 := 47) (x := (45 : Int32)) A_6 (i := o + 6) (by omega) (Or.inl (List.mem_singleton.mpr rfl)) W.safe0 d7_46 rfl ?_
  intro T192 h192 P192 W192 G192
  have A_7 : W.Arg Z h192 d kd .char n (own_part (own_core ca cb ct) o 7 f) := G192.congr (fun j _ => own_pstep (show (own_core ca cb ct).getD 6 0 = _ from (own_narc ((own_b 45)).ch).symm) j)
  refine W.g_aloadN (pc1 := 48) P192.q d7_47 rfl rfl rfl ?_
  refine W.g_iloadN (pc1 := 49) P192.q d7_48 rfl rfl ?_
  refine W.g_bipush (pc1 := 51) (v := (7 : Int32)) P192.q d7_49 (by decide) rfl ?_
  refine W.g_iadd (pc1 := 52) P192.q d7_51 rfl ?_
  refine W.g_bipush (pc1 := 54) (v := (32 : Int32)) P192.q d7_52 (by decide) rfl ?_
  rw [show Int32.ofNat o + (7 : Int32) = Int32.ofNat (o + 7) from own_add o 7]
  show W.Go p.tables e below _ (T192.setTop (mkF m 54 #[.val (.ref d), .val (.int (Int32.ofNat o)), .val (.int ca), .val (.int cb), .val (.int ct)] [(.int (32 : Int32)), (.int (Int32.ofNat (o + 7))), (.ref d)]))
  refine P192.stCg (pc1 := 55) (x := (32 : Int32)) A_7 (i := o + 7) (by omega) (Or.inl (List.mem_singleton.mpr rfl)) W.safe0 d7_54 rfl ?_
  intro T193 h193 P193 W193 G193
  have A_8 : W.Arg Z h193 d kd .char n (own_part (own_core ca cb ct) o 8 f) := G193.congr (fun j _ => own_pstep (show (own_core ca cb ct).getD 7 0 = _ from (own_narc ((own_b 32)).ch).symm) j)
  refine W.g_aloadN (pc1 := 56) P193.q d7_55 rfl rfl rfl ?_
  refine W.g_iloadN (pc1 := 57) P193.q d7_56 rfl rfl ?_
  refine W.g_bipush (pc1 := 59) (v := (8 : Int32)) P193.q d7_57 (by decide) rfl ?_
  refine W.g_iadd (pc1 := 60) P193.q d7_59 rfl ?_
  refine W.g_iloadN (pc1 := 61) P193.q d7_60 rfl rfl ?_
  rw [show Int32.ofNat o + (8 : Int32) = Int32.ofNat (o + 8) from own_add o 8]
  show W.Go p.tables e below _ (T193.setTop (mkF m 61 #[.val (.ref d), .val (.int (Int32.ofNat o)), .val (.int ca), .val (.int cb), .val (.int ct)] [(.int cb), (.int (Int32.ofNat (o + 8))), (.ref d)]))
  refine P193.stCg (pc1 := 62) (x := cb) A_8 (i := o + 8) (by omega) (Or.inl (List.mem_singleton.mpr rfl)) W.safe0 d7_61 rfl ?_
  intro T194 h194 P194 W194 G194
  have A_9 : W.Arg Z h194 d kd .char n (own_part (own_core ca cb ct) o 9 f) := G194.congr (fun j _ => own_pstep (show (own_core ca cb ct).getD 8 0 = _ from (own_narc (bb).ch).symm) j)
  refine W.g_aloadN (pc1 := 63) P194.q d7_62 rfl rfl rfl ?_
  refine W.g_iloadN (pc1 := 64) P194.q d7_63 rfl rfl ?_
  refine W.g_bipush (pc1 := 66) (v := (9 : Int32)) P194.q d7_64 (by decide) rfl ?_
  refine W.g_iadd (pc1 := 67) P194.q d7_66 rfl ?_
  refine W.g_bipush (pc1 := 69) (v := (41 : Int32)) P194.q d7_67 (by decide) rfl ?_
  rw [show Int32.ofNat o + (9 : Int32) = Int32.ofNat (o + 9) from own_add o 9]
  show W.Go p.tables e below _ (T194.setTop (mkF m 69 #[.val (.ref d), .val (.int (Int32.ofNat o)), .val (.int ca), .val (.int cb), .val (.int ct)] [(.int (41 : Int32)), (.int (Int32.ofNat (o + 9))), (.ref d)]))
  refine P194.stCg (pc1 := 70) (x := (41 : Int32)) A_9 (i := o + 9) (by omega) (Or.inl (List.mem_singleton.mpr rfl)) W.safe0 d7_69 rfl ?_
  intro T195 h195 P195 W195 G195
  have A_10 : W.Arg Z h195 d kd .char n (own_part (own_core ca cb ct) o 10 f) := G195.congr (fun j _ => own_pstep (show (own_core ca cb ct).getD 9 0 = _ from (own_narc ((own_b 41)).ch).symm) j)
  refine W.g_aloadN (pc1 := 71) P195.q d7_70 rfl rfl rfl ?_
  refine W.g_iloadN (pc1 := 72) P195.q d7_71 rfl rfl ?_
  refine W.g_bipush (pc1 := 74) (v := (10 : Int32)) P195.q d7_72 (by decide) rfl ?_
  refine W.g_iadd (pc1 := 75) P195.q d7_74 rfl ?_
  refine W.g_bipush (pc1 := 77) (v := (32 : Int32)) P195.q d7_75 (by decide) rfl ?_
  rw [show Int32.ofNat o + (10 : Int32) = Int32.ofNat (o + 10) from own_add o 10]
  show W.Go p.tables e below _ (T195.setTop (mkF m 77 #[.val (.ref d), .val (.int (Int32.ofNat o)), .val (.int ca), .val (.int cb), .val (.int ct)] [(.int (32 : Int32)), (.int (Int32.ofNat (o + 10))), (.ref d)]))
  refine P195.stCg (pc1 := 78) (x := (32 : Int32)) A_10 (i := o + 10) (by omega) (Or.inl (List.mem_singleton.mpr rfl)) W.safe0 d7_77 rfl ?_
  intro T196 h196 P196 W196 G196
  have A_11 : W.Arg Z h196 d kd .char n (own_part (own_core ca cb ct) o 11 f) := G196.congr (fun j _ => own_pstep (show (own_core ca cb ct).getD 10 0 = _ from (own_narc ((own_b 32)).ch).symm) j)
  refine W.g_aloadN (pc1 := 79) P196.q d7_78 rfl rfl rfl ?_
  refine W.g_iloadN (pc1 := 80) P196.q d7_79 rfl rfl ?_
  refine W.g_bipush (pc1 := 82) (v := (11 : Int32)) P196.q d7_80 (by decide) rfl ?_
  refine W.g_iadd (pc1 := 83) P196.q d7_82 rfl ?_
  refine W.g_bipush (pc1 := 85) (v := (60 : Int32)) P196.q d7_83 (by decide) rfl ?_
  rw [show Int32.ofNat o + (11 : Int32) = Int32.ofNat (o + 11) from own_add o 11]
  show W.Go p.tables e below _ (T196.setTop (mkF m 85 #[.val (.ref d), .val (.int (Int32.ofNat o)), .val (.int ca), .val (.int cb), .val (.int ct)] [(.int (60 : Int32)), (.int (Int32.ofNat (o + 11))), (.ref d)]))
  refine P196.stCg (pc1 := 86) (x := (60 : Int32)) A_11 (i := o + 11) (by omega) (Or.inl (List.mem_singleton.mpr rfl)) W.safe0 d7_85 rfl ?_
  intro T197 h197 P197 W197 G197
  have A_12 : W.Arg Z h197 d kd .char n (own_part (own_core ca cb ct) o 12 f) := G197.congr (fun j _ => own_pstep (show (own_core ca cb ct).getD 11 0 = _ from (own_narc ((own_b 60)).ch).symm) j)
  refine W.g_aloadN (pc1 := 87) P197.q d7_86 rfl rfl rfl ?_
  refine W.g_iloadN (pc1 := 88) P197.q d7_87 rfl rfl ?_
  refine W.g_bipush (pc1 := 90) (v := (12 : Int32)) P197.q d7_88 (by decide) rfl ?_
  refine W.g_iadd (pc1 := 91) P197.q d7_90 rfl ?_
  refine W.g_bipush (pc1 := 93) (v := (61 : Int32)) P197.q d7_91 (by decide) rfl ?_
  rw [show Int32.ofNat o + (12 : Int32) = Int32.ofNat (o + 12) from own_add o 12]
  show W.Go p.tables e below _ (T197.setTop (mkF m 93 #[.val (.ref d), .val (.int (Int32.ofNat o)), .val (.int ca), .val (.int cb), .val (.int ct)] [(.int (61 : Int32)), (.int (Int32.ofNat (o + 12))), (.ref d)]))
  refine P197.stCg (pc1 := 94) (x := (61 : Int32)) A_12 (i := o + 12) (by omega) (Or.inl (List.mem_singleton.mpr rfl)) W.safe0 d7_93 rfl ?_
  intro T198 h198 P198 W198 G198
  have A_13 : W.Arg Z h198 d kd .char n (own_part (own_core ca cb ct) o 13 f) := G198.congr (fun j _ => own_pstep (show (own_core ca cb ct).getD 12 0 = _ from (own_narc ((own_b 61)).ch).symm) j)
  refine W.g_aloadN (pc1 := 95) P198.q d7_94 rfl rfl rfl ?_
  refine W.g_iloadN (pc1 := 96) P198.q d7_95 rfl rfl ?_
  refine W.g_bipush (pc1 := 98) (v := (13 : Int32)) P198.q d7_96 (by decide) rfl ?_
  refine W.g_iadd (pc1 := 99) P198.q d7_98 rfl ?_
  refine W.g_bipush (pc1 := 101) (v := (32 : Int32)) P198.q d7_99 (by decide) rfl ?_
  rw [show Int32.ofNat o + (13 : Int32) = Int32.ofNat (o + 13) from own_add o 13]
  show W.Go p.tables e below _ (T198.setTop (mkF m 101 #[.val (.ref d), .val (.int (Int32.ofNat o)), .val (.int ca), .val (.int cb), .val (.int ct)] [(.int (32 : Int32)), (.int (Int32.ofNat (o + 13))), (.ref d)]))
  refine P198.stCg (pc1 := 102) (x := (32 : Int32)) A_13 (i := o + 13) (by omega) (Or.inl (List.mem_singleton.mpr rfl)) W.safe0 d7_101 rfl ?_
  intro T199 h199 P199 W199 G199
  have A_14 : W.Arg Z h199 d kd .char n (own_part (own_core ca cb ct) o 14 f) := G199.congr (fun j _ => own_pstep (show (own_core ca cb ct).getD 13 0 = _ from (own_narc ((own_b 32)).ch).symm) j)
  refine W.g_aloadN (pc1 := 103) P199.q d7_102 rfl rfl rfl ?_
  refine W.g_iloadN (pc1 := 104) P199.q d7_103 rfl rfl ?_
  refine W.g_bipush (pc1 := 106) (v := (14 : Int32)) P199.q d7_104 (by decide) rfl ?_
  refine W.g_iadd (pc1 := 107) P199.q d7_106 rfl ?_
  refine W.g_iload (pc1 := 109) P199.q d7_107 rfl rfl ?_
  rw [show Int32.ofNat o + (14 : Int32) = Int32.ofNat (o + 14) from own_add o 14]
  show W.Go p.tables e below _ (T199.setTop (mkF m 109 #[.val (.ref d), .val (.int (Int32.ofNat o)), .val (.int ca), .val (.int cb), .val (.int ct)] [(.int ct), (.int (Int32.ofNat (o + 14))), (.ref d)]))
  refine P199.stCg (pc1 := 110) (x := ct) A_14 (i := o + 14) (by omega) (Or.inl (List.mem_singleton.mpr rfl)) W.safe0 d7_109 rfl ?_
  intro T200 h200 P200 W200 G200
  have A_15 : W.Arg Z h200 d kd .char n (own_part (own_core ca cb ct) o 15 f) := G200.congr (fun j _ => own_pstep (show (own_core ca cb ct).getD 14 0 = _ from (own_narc (bt).ch).symm) j)
  refine W.g_aloadN (pc1 := 111) P200.q d7_110 rfl rfl rfl ?_
  refine W.g_iloadN (pc1 := 112) P200.q d7_111 rfl rfl ?_
  refine W.g_bipush (pc1 := 114) (v := (15 : Int32)) P200.q d7_112 (by decide) rfl ?_
  refine W.g_iadd (pc1 := 115) P200.q d7_114 rfl ?_
  refine W.g_bipush (pc1 := 117) (v := (32 : Int32)) P200.q d7_115 (by decide) rfl ?_
  rw [show Int32.ofNat o + (15 : Int32) = Int32.ofNat (o + 15) from own_add o 15]
  show W.Go p.tables e below _ (T200.setTop (mkF m 117 #[.val (.ref d), .val (.int (Int32.ofNat o)), .val (.int ca), .val (.int cb), .val (.int ct)] [(.int (32 : Int32)), (.int (Int32.ofNat (o + 15))), (.ref d)]))
  refine P200.stCg (pc1 := 118) (x := (32 : Int32)) A_15 (i := o + 15) (by omega) (Or.inl (List.mem_singleton.mpr rfl)) W.safe0 d7_117 rfl ?_
  intro T201 h201 P201 W201 G201
  have A_16 : W.Arg Z h201 d kd .char n (own_part (own_core ca cb ct) o 16 f) := G201.congr (fun j _ => own_pstep (show (own_core ca cb ct).getD 15 0 = _ from (own_narc ((own_b 32)).ch).symm) j)
  refine W.g_aloadN (pc1 := 119) P201.q d7_118 rfl rfl rfl ?_
  refine W.g_iloadN (pc1 := 120) P201.q d7_119 rfl rfl ?_
  refine W.g_bipush (pc1 := 122) (v := (16 : Int32)) P201.q d7_120 (by decide) rfl ?_
  refine W.g_iadd (pc1 := 123) P201.q d7_122 rfl ?_
  refine W.g_bipush (pc1 := 125) (v := (42 : Int32)) P201.q d7_123 (by decide) rfl ?_
  rw [show Int32.ofNat o + (16 : Int32) = Int32.ofNat (o + 16) from own_add o 16]
  show W.Go p.tables e below _ (T201.setTop (mkF m 125 #[.val (.ref d), .val (.int (Int32.ofNat o)), .val (.int ca), .val (.int cb), .val (.int ct)] [(.int (42 : Int32)), (.int (Int32.ofNat (o + 16))), (.ref d)]))
  refine P201.stCg (pc1 := 126) (x := (42 : Int32)) A_16 (i := o + 16) (by omega) (Or.inl (List.mem_singleton.mpr rfl)) W.safe0 d7_125 rfl ?_
  intro T202 h202 P202 W202 G202
  have A_17 : W.Arg Z h202 d kd .char n (own_part (own_core ca cb ct) o 17 f) := G202.congr (fun j _ => own_pstep (show (own_core ca cb ct).getD 16 0 = _ from (own_narc ((own_b 42)).ch).symm) j)
  refine W.g_aloadN (pc1 := 127) P202.q d7_126 rfl rfl rfl ?_
  refine W.g_iloadN (pc1 := 128) P202.q d7_127 rfl rfl ?_
  refine W.g_bipush (pc1 := 130) (v := (17 : Int32)) P202.q d7_128 (by decide) rfl ?_
  refine W.g_iadd (pc1 := 131) P202.q d7_130 rfl ?_
  refine W.g_bipush (pc1 := 133) (v := (32 : Int32)) P202.q d7_131 (by decide) rfl ?_
  rw [show Int32.ofNat o + (17 : Int32) = Int32.ofNat (o + 17) from own_add o 17]
  show W.Go p.tables e below _ (T202.setTop (mkF m 133 #[.val (.ref d), .val (.int (Int32.ofNat o)), .val (.int ca), .val (.int cb), .val (.int ct)] [(.int (32 : Int32)), (.int (Int32.ofNat (o + 17))), (.ref d)]))
  refine P202.stCg (pc1 := 134) (x := (32 : Int32)) A_17 (i := o + 17) (by omega) (Or.inl (List.mem_singleton.mpr rfl)) W.safe0 d7_133 rfl ?_
  intro T203 h203 P203 W203 G203
  have A_18 : W.Arg Z h203 d kd .char n (own_part (own_core ca cb ct) o 18 f) := G203.congr (fun j _ => own_pstep (show (own_core ca cb ct).getD 17 0 = _ from (own_narc ((own_b 32)).ch).symm) j)
  refine W.g_aloadN (pc1 := 135) P203.q d7_134 rfl rfl rfl ?_
  refine W.g_iloadN (pc1 := 136) P203.q d7_135 rfl rfl ?_
  refine W.g_bipush (pc1 := 138) (v := (18 : Int32)) P203.q d7_136 (by decide) rfl ?_
  refine W.g_iadd (pc1 := 139) P203.q d7_138 rfl ?_
  refine W.g_bipush (pc1 := 141) (v := (97 : Int32)) P203.q d7_139 (by decide) rfl ?_
  rw [show Int32.ofNat o + (18 : Int32) = Int32.ofNat (o + 18) from own_add o 18]
  show W.Go p.tables e below _ (T203.setTop (mkF m 141 #[.val (.ref d), .val (.int (Int32.ofNat o)), .val (.int ca), .val (.int cb), .val (.int ct)] [(.int (97 : Int32)), (.int (Int32.ofNat (o + 18))), (.ref d)]))
  refine P203.stCg (pc1 := 142) (x := (97 : Int32)) A_18 (i := o + 18) (by omega) (Or.inl (List.mem_singleton.mpr rfl)) W.safe0 d7_141 rfl ?_
  intro T204 h204 P204 W204 G204
  have A_19 : W.Arg Z h204 d kd .char n (own_part (own_core ca cb ct) o 19 f) := G204.congr (fun j _ => own_pstep (show (own_core ca cb ct).getD 18 0 = _ from (own_narc ((own_b 97)).ch).symm) j)
  refine W.g_aloadN (pc1 := 143) P204.q d7_142 rfl rfl rfl ?_
  refine W.g_iloadN (pc1 := 144) P204.q d7_143 rfl rfl ?_
  refine W.g_bipush (pc1 := 146) (v := (19 : Int32)) P204.q d7_144 (by decide) rfl ?_
  refine W.g_iadd (pc1 := 147) P204.q d7_146 rfl ?_
  refine W.g_bipush (pc1 := 149) (v := (98 : Int32)) P204.q d7_147 (by decide) rfl ?_
  rw [show Int32.ofNat o + (19 : Int32) = Int32.ofNat (o + 19) from own_add o 19]
  show W.Go p.tables e below _ (T204.setTop (mkF m 149 #[.val (.ref d), .val (.int (Int32.ofNat o)), .val (.int ca), .val (.int cb), .val (.int ct)] [(.int (98 : Int32)), (.int (Int32.ofNat (o + 19))), (.ref d)]))
  refine P204.stCg (pc1 := 150) (x := (98 : Int32)) A_19 (i := o + 19) (by omega) (Or.inl (List.mem_singleton.mpr rfl)) W.safe0 d7_149 rfl ?_
  intro T205 h205 P205 W205 G205
  have A_20 : W.Arg Z h205 d kd .char n (own_part (own_core ca cb ct) o 20 f) := G205.congr (fun j _ => own_pstep (show (own_core ca cb ct).getD 19 0 = _ from (own_narc ((own_b 98)).ch).symm) j)
  refine W.g_aloadN (pc1 := 151) P205.q d7_150 rfl rfl rfl ?_
  refine W.g_iloadN (pc1 := 152) P205.q d7_151 rfl rfl ?_
  refine W.g_bipush (pc1 := 154) (v := (20 : Int32)) P205.q d7_152 (by decide) rfl ?_
  refine W.g_iadd (pc1 := 155) P205.q d7_154 rfl ?_
  refine W.g_bipush (pc1 := 157) (v := (115 : Int32)) P205.q d7_155 (by decide) rfl ?_
  rw [show Int32.ofNat o + (20 : Int32) = Int32.ofNat (o + 20) from own_add o 20]
  show W.Go p.tables e below _ (T205.setTop (mkF m 157 #[.val (.ref d), .val (.int (Int32.ofNat o)), .val (.int ca), .val (.int cb), .val (.int ct)] [(.int (115 : Int32)), (.int (Int32.ofNat (o + 20))), (.ref d)]))
  refine P205.stCg (pc1 := 158) (x := (115 : Int32)) A_20 (i := o + 20) (by omega) (Or.inl (List.mem_singleton.mpr rfl)) W.safe0 d7_157 rfl ?_
  intro T206 h206 P206 W206 G206
  have A_21 : W.Arg Z h206 d kd .char n (own_part (own_core ca cb ct) o 21 f) := G206.congr (fun j _ => own_pstep (show (own_core ca cb ct).getD 20 0 = _ from (own_narc ((own_b 115)).ch).symm) j)
  refine W.g_aloadN (pc1 := 159) P206.q d7_158 rfl rfl rfl ?_
  refine W.g_iloadN (pc1 := 160) P206.q d7_159 rfl rfl ?_
  refine W.g_bipush (pc1 := 162) (v := (21 : Int32)) P206.q d7_160 (by decide) rfl ?_
  refine W.g_iadd (pc1 := 163) P206.q d7_162 rfl ?_
  refine W.g_bipush (pc1 := 165) (v := (40 : Int32)) P206.q d7_163 (by decide) rfl ?_
  rw [show Int32.ofNat o + (21 : Int32) = Int32.ofNat (o + 21) from own_add o 21]
  show W.Go p.tables e below _ (T206.setTop (mkF m 165 #[.val (.ref d), .val (.int (Int32.ofNat o)), .val (.int ca), .val (.int cb), .val (.int ct)] [(.int (40 : Int32)), (.int (Int32.ofNat (o + 21))), (.ref d)]))
  refine P206.stCg (pc1 := 166) (x := (40 : Int32)) A_21 (i := o + 21) (by omega) (Or.inl (List.mem_singleton.mpr rfl)) W.safe0 d7_165 rfl ?_
  intro T207 h207 P207 W207 G207
  have A_22 : W.Arg Z h207 d kd .char n (own_part (own_core ca cb ct) o 22 f) := G207.congr (fun j _ => own_pstep (show (own_core ca cb ct).getD 21 0 = _ from (own_narc ((own_b 40)).ch).symm) j)
  refine W.g_aloadN (pc1 := 167) P207.q d7_166 rfl rfl rfl ?_
  refine W.g_iloadN (pc1 := 168) P207.q d7_167 rfl rfl ?_
  refine W.g_bipush (pc1 := 170) (v := (22 : Int32)) P207.q d7_168 (by decide) rfl ?_
  refine W.g_iadd (pc1 := 171) P207.q d7_170 rfl ?_
  refine W.g_iloadN (pc1 := 172) P207.q d7_171 rfl rfl ?_
  rw [show Int32.ofNat o + (22 : Int32) = Int32.ofNat (o + 22) from own_add o 22]
  show W.Go p.tables e below _ (T207.setTop (mkF m 172 #[.val (.ref d), .val (.int (Int32.ofNat o)), .val (.int ca), .val (.int cb), .val (.int ct)] [(.int ca), (.int (Int32.ofNat (o + 22))), (.ref d)]))
  refine P207.stCg (pc1 := 173) (x := ca) A_22 (i := o + 22) (by omega) (Or.inl (List.mem_singleton.mpr rfl)) W.safe0 d7_172 rfl ?_
  intro T208 h208 P208 W208 G208
  have A_23 : W.Arg Z h208 d kd .char n (own_part (own_core ca cb ct) o 23 f) := G208.congr (fun j _ => own_pstep (show (own_core ca cb ct).getD 22 0 = _ from (own_narc (ba).ch).symm) j)
  refine W.g_aloadN (pc1 := 174) P208.q d7_173 rfl rfl rfl ?_
  refine W.g_iloadN (pc1 := 175) P208.q d7_174 rfl rfl ?_
  refine W.g_bipush (pc1 := 177) (v := (23 : Int32)) P208.q d7_175 (by decide) rfl ?_
  refine W.g_iadd (pc1 := 178) P208.q d7_177 rfl ?_
  refine W.g_bipush (pc1 := 180) (v := (41 : Int32)) P208.q d7_178 (by decide) rfl ?_
  rw [show Int32.ofNat o + (23 : Int32) = Int32.ofNat (o + 23) from own_add o 23]
  show W.Go p.tables e below _ (T208.setTop (mkF m 180 #[.val (.ref d), .val (.int (Int32.ofNat o)), .val (.int ca), .val (.int cb), .val (.int ct)] [(.int (41 : Int32)), (.int (Int32.ofNat (o + 23))), (.ref d)]))
  refine P208.stCg (pc1 := 181) (x := (41 : Int32)) A_23 (i := o + 23) (by omega) (Or.inl (List.mem_singleton.mpr rfl)) W.safe0 d7_180 rfl ?_
  intro T209 h209 P209 W209 G209
  have A_24 : W.Arg Z h209 d kd .char n (own_part (own_core ca cb ct) o 24 f) := G209.congr (fun j _ => own_pstep (show (own_core ca cb ct).getD 23 0 = _ from (own_narc ((own_b 41)).ch).symm) j)
  refine W.g_aloadN (pc1 := 182) P209.q d7_181 rfl rfl rfl ?_
  refine W.g_iloadN (pc1 := 183) P209.q d7_182 rfl rfl ?_
  refine W.g_bipush (pc1 := 185) (v := (24 : Int32)) P209.q d7_183 (by decide) rfl ?_
  refine W.g_iadd (pc1 := 186) P209.q d7_185 rfl ?_
  refine W.g_bipush (pc1 := 188) (v := (32 : Int32)) P209.q d7_186 (by decide) rfl ?_
  rw [show Int32.ofNat o + (24 : Int32) = Int32.ofNat (o + 24) from own_add o 24]
  show W.Go p.tables e below _ (T209.setTop (mkF m 188 #[.val (.ref d), .val (.int (Int32.ofNat o)), .val (.int ca), .val (.int cb), .val (.int ct)] [(.int (32 : Int32)), (.int (Int32.ofNat (o + 24))), (.ref d)]))
  refine P209.stCg (pc1 := 189) (x := (32 : Int32)) A_24 (i := o + 24) (by omega) (Or.inl (List.mem_singleton.mpr rfl)) W.safe0 d7_188 rfl ?_
  intro T210 h210 P210 W210 G210
  have A_25 : W.Arg Z h210 d kd .char n (own_part (own_core ca cb ct) o 25 f) := G210.congr (fun j _ => own_pstep (show (own_core ca cb ct).getD 24 0 = _ from (own_narc ((own_b 32)).ch).symm) j)
  refine W.g_aloadN (pc1 := 190) P210.q d7_189 rfl rfl rfl ?_
  refine W.g_iloadN (pc1 := 191) P210.q d7_190 rfl rfl ?_
  refine W.g_bipush (pc1 := 193) (v := (25 : Int32)) P210.q d7_191 (by decide) rfl ?_
  refine W.g_iadd (pc1 := 194) P210.q d7_193 rfl ?_
  refine W.g_bipush (pc1 := 196) (v := (111 : Int32)) P210.q d7_194 (by decide) rfl ?_
  rw [show Int32.ofNat o + (25 : Int32) = Int32.ofNat (o + 25) from own_add o 25]
  show W.Go p.tables e below _ (T210.setTop (mkF m 196 #[.val (.ref d), .val (.int (Int32.ofNat o)), .val (.int ca), .val (.int cb), .val (.int ct)] [(.int (111 : Int32)), (.int (Int32.ofNat (o + 25))), (.ref d)]))
  refine P210.stCg (pc1 := 197) (x := (111 : Int32)) A_25 (i := o + 25) (by omega) (Or.inl (List.mem_singleton.mpr rfl)) W.safe0 d7_196 rfl ?_
  intro T211 h211 P211 W211 G211
  have A_26 : W.Arg Z h211 d kd .char n (own_part (own_core ca cb ct) o 26 f) := G211.congr (fun j _ => own_pstep (show (own_core ca cb ct).getD 25 0 = _ from (own_narc ((own_b 111)).ch).symm) j)
  refine W.g_aloadN (pc1 := 198) P211.q d7_197 rfl rfl rfl ?_
  refine W.g_iloadN (pc1 := 199) P211.q d7_198 rfl rfl ?_
  refine W.g_bipush (pc1 := 201) (v := (26 : Int32)) P211.q d7_199 (by decide) rfl ?_
  refine W.g_iadd (pc1 := 202) P211.q d7_201 rfl ?_
  refine W.g_bipush (pc1 := 204) (v := (114 : Int32)) P211.q d7_202 (by decide) rfl ?_
  rw [show Int32.ofNat o + (26 : Int32) = Int32.ofNat (o + 26) from own_add o 26]
  show W.Go p.tables e below _ (T211.setTop (mkF m 204 #[.val (.ref d), .val (.int (Int32.ofNat o)), .val (.int ca), .val (.int cb), .val (.int ct)] [(.int (114 : Int32)), (.int (Int32.ofNat (o + 26))), (.ref d)]))
  refine P211.stCg (pc1 := 205) (x := (114 : Int32)) A_26 (i := o + 26) (by omega) (Or.inl (List.mem_singleton.mpr rfl)) W.safe0 d7_204 rfl ?_
  intro T212 h212 P212 W212 G212
  have A_27 : W.Arg Z h212 d kd .char n (own_part (own_core ca cb ct) o 27 f) := G212.congr (fun j _ => own_pstep (show (own_core ca cb ct).getD 26 0 = _ from (own_narc ((own_b 114)).ch).symm) j)
  refine W.g_aloadN (pc1 := 206) P212.q d7_205 rfl rfl rfl ?_
  refine W.g_iloadN (pc1 := 207) P212.q d7_206 rfl rfl ?_
  refine W.g_bipush (pc1 := 209) (v := (27 : Int32)) P212.q d7_207 (by decide) rfl ?_
  refine W.g_iadd (pc1 := 210) P212.q d7_209 rfl ?_
  refine W.g_bipush (pc1 := 212) (v := (32 : Int32)) P212.q d7_210 (by decide) rfl ?_
  rw [show Int32.ofNat o + (27 : Int32) = Int32.ofNat (o + 27) from own_add o 27]
  show W.Go p.tables e below _ (T212.setTop (mkF m 212 #[.val (.ref d), .val (.int (Int32.ofNat o)), .val (.int ca), .val (.int cb), .val (.int ct)] [(.int (32 : Int32)), (.int (Int32.ofNat (o + 27))), (.ref d)]))
  refine P212.stCg (pc1 := 213) (x := (32 : Int32)) A_27 (i := o + 27) (by omega) (Or.inl (List.mem_singleton.mpr rfl)) W.safe0 d7_212 rfl ?_
  intro T213 h213 P213 W213 G213
  have A_28 : W.Arg Z h213 d kd .char n (own_part (own_core ca cb ct) o 28 f) := G213.congr (fun j _ => own_pstep (show (own_core ca cb ct).getD 27 0 = _ from (own_narc ((own_b 32)).ch).symm) j)
  refine W.g_aloadN (pc1 := 214) P213.q d7_213 rfl rfl rfl ?_
  refine W.g_iloadN (pc1 := 215) P213.q d7_214 rfl rfl ?_
  refine W.g_bipush (pc1 := 217) (v := (28 : Int32)) P213.q d7_215 (by decide) rfl ?_
  refine W.g_iadd (pc1 := 218) P213.q d7_217 rfl ?_
  refine W.g_bipush (pc1 := 220) (v := (97 : Int32)) P213.q d7_218 (by decide) rfl ?_
  rw [show Int32.ofNat o + (28 : Int32) = Int32.ofNat (o + 28) from own_add o 28]
  show W.Go p.tables e below _ (T213.setTop (mkF m 220 #[.val (.ref d), .val (.int (Int32.ofNat o)), .val (.int ca), .val (.int cb), .val (.int ct)] [(.int (97 : Int32)), (.int (Int32.ofNat (o + 28))), (.ref d)]))
  refine P213.stCg (pc1 := 221) (x := (97 : Int32)) A_28 (i := o + 28) (by omega) (Or.inl (List.mem_singleton.mpr rfl)) W.safe0 d7_220 rfl ?_
  intro T214 h214 P214 W214 G214
  have A_29 : W.Arg Z h214 d kd .char n (own_part (own_core ca cb ct) o 29 f) := G214.congr (fun j _ => own_pstep (show (own_core ca cb ct).getD 28 0 = _ from (own_narc ((own_b 97)).ch).symm) j)
  refine W.g_aloadN (pc1 := 222) P214.q d7_221 rfl rfl rfl ?_
  refine W.g_iloadN (pc1 := 223) P214.q d7_222 rfl rfl ?_
  refine W.g_bipush (pc1 := 225) (v := (29 : Int32)) P214.q d7_223 (by decide) rfl ?_
  refine W.g_iadd (pc1 := 226) P214.q d7_225 rfl ?_
  refine W.g_bipush (pc1 := 228) (v := (98 : Int32)) P214.q d7_226 (by decide) rfl ?_
  rw [show Int32.ofNat o + (29 : Int32) = Int32.ofNat (o + 29) from own_add o 29]
  show W.Go p.tables e below _ (T214.setTop (mkF m 228 #[.val (.ref d), .val (.int (Int32.ofNat o)), .val (.int ca), .val (.int cb), .val (.int ct)] [(.int (98 : Int32)), (.int (Int32.ofNat (o + 29))), (.ref d)]))
  refine P214.stCg (pc1 := 229) (x := (98 : Int32)) A_29 (i := o + 29) (by omega) (Or.inl (List.mem_singleton.mpr rfl)) W.safe0 d7_228 rfl ?_
  intro T215 h215 P215 W215 G215
  have A_30 : W.Arg Z h215 d kd .char n (own_part (own_core ca cb ct) o 30 f) := G215.congr (fun j _ => own_pstep (show (own_core ca cb ct).getD 29 0 = _ from (own_narc ((own_b 98)).ch).symm) j)
  refine W.g_aloadN (pc1 := 230) P215.q d7_229 rfl rfl rfl ?_
  refine W.g_iloadN (pc1 := 231) P215.q d7_230 rfl rfl ?_
  refine W.g_bipush (pc1 := 233) (v := (30 : Int32)) P215.q d7_231 (by decide) rfl ?_
  refine W.g_iadd (pc1 := 234) P215.q d7_233 rfl ?_
  refine W.g_bipush (pc1 := 236) (v := (115 : Int32)) P215.q d7_234 (by decide) rfl ?_
  rw [show Int32.ofNat o + (30 : Int32) = Int32.ofNat (o + 30) from own_add o 30]
  show W.Go p.tables e below _ (T215.setTop (mkF m 236 #[.val (.ref d), .val (.int (Int32.ofNat o)), .val (.int ca), .val (.int cb), .val (.int ct)] [(.int (115 : Int32)), (.int (Int32.ofNat (o + 30))), (.ref d)]))
  refine P215.stCg (pc1 := 237) (x := (115 : Int32)) A_30 (i := o + 30) (by omega) (Or.inl (List.mem_singleton.mpr rfl)) W.safe0 d7_236 rfl ?_
  intro T216 h216 P216 W216 G216
  have A_31 : W.Arg Z h216 d kd .char n (own_part (own_core ca cb ct) o 31 f) := G216.congr (fun j _ => own_pstep (show (own_core ca cb ct).getD 30 0 = _ from (own_narc ((own_b 115)).ch).symm) j)
  refine W.g_aloadN (pc1 := 238) P216.q d7_237 rfl rfl rfl ?_
  refine W.g_iloadN (pc1 := 239) P216.q d7_238 rfl rfl ?_
  refine W.g_bipush (pc1 := 241) (v := (31 : Int32)) P216.q d7_239 (by decide) rfl ?_
  refine W.g_iadd (pc1 := 242) P216.q d7_241 rfl ?_
  refine W.g_bipush (pc1 := 244) (v := (40 : Int32)) P216.q d7_242 (by decide) rfl ?_
  rw [show Int32.ofNat o + (31 : Int32) = Int32.ofNat (o + 31) from own_add o 31]
  show W.Go p.tables e below _ (T216.setTop (mkF m 244 #[.val (.ref d), .val (.int (Int32.ofNat o)), .val (.int ca), .val (.int cb), .val (.int ct)] [(.int (40 : Int32)), (.int (Int32.ofNat (o + 31))), (.ref d)]))
  refine P216.stCg (pc1 := 245) (x := (40 : Int32)) A_31 (i := o + 31) (by omega) (Or.inl (List.mem_singleton.mpr rfl)) W.safe0 d7_244 rfl ?_
  intro T217 h217 P217 W217 G217
  have A_32 : W.Arg Z h217 d kd .char n (own_part (own_core ca cb ct) o 32 f) := G217.congr (fun j _ => own_pstep (show (own_core ca cb ct).getD 31 0 = _ from (own_narc ((own_b 40)).ch).symm) j)
  refine W.g_aloadN (pc1 := 246) P217.q d7_245 rfl rfl rfl ?_
  refine W.g_iloadN (pc1 := 247) P217.q d7_246 rfl rfl ?_
  refine W.g_bipush (pc1 := 249) (v := (32 : Int32)) P217.q d7_247 (by decide) rfl ?_
  refine W.g_iadd (pc1 := 250) P217.q d7_249 rfl ?_
  refine W.g_iloadN (pc1 := 251) P217.q d7_250 rfl rfl ?_
  rw [show Int32.ofNat o + (32 : Int32) = Int32.ofNat (o + 32) from own_add o 32]
  show W.Go p.tables e below _ (T217.setTop (mkF m 251 #[.val (.ref d), .val (.int (Int32.ofNat o)), .val (.int ca), .val (.int cb), .val (.int ct)] [(.int ca), (.int (Int32.ofNat (o + 32))), (.ref d)]))
  refine P217.stCg (pc1 := 252) (x := ca) A_32 (i := o + 32) (by omega) (Or.inl (List.mem_singleton.mpr rfl)) W.safe0 d7_251 rfl ?_
  intro T218 h218 P218 W218 G218
  have A_33 : W.Arg Z h218 d kd .char n (own_part (own_core ca cb ct) o 33 f) := G218.congr (fun j _ => own_pstep (show (own_core ca cb ct).getD 32 0 = _ from (own_narc (ba).ch).symm) j)
  refine W.g_aloadN (pc1 := 253) P218.q d7_252 rfl rfl rfl ?_
  refine W.g_iloadN (pc1 := 254) P218.q d7_253 rfl rfl ?_
  refine W.g_bipush (pc1 := 256) (v := (33 : Int32)) P218.q d7_254 (by decide) rfl ?_
  refine W.g_iadd (pc1 := 257) P218.q d7_256 rfl ?_
  refine W.g_bipush (pc1 := 259) (v := (32 : Int32)) P218.q d7_257 (by decide) rfl ?_
  rw [show Int32.ofNat o + (33 : Int32) = Int32.ofNat (o + 33) from own_add o 33]
  show W.Go p.tables e below _ (T218.setTop (mkF m 259 #[.val (.ref d), .val (.int (Int32.ofNat o)), .val (.int ca), .val (.int cb), .val (.int ct)] [(.int (32 : Int32)), (.int (Int32.ofNat (o + 33))), (.ref d)]))
  refine P218.stCg (pc1 := 260) (x := (32 : Int32)) A_33 (i := o + 33) (by omega) (Or.inl (List.mem_singleton.mpr rfl)) W.safe0 d7_259 rfl ?_
  intro T219 h219 P219 W219 G219
  have A_34 : W.Arg Z h219 d kd .char n (own_part (own_core ca cb ct) o 34 f) := G219.congr (fun j _ => own_pstep (show (own_core ca cb ct).getD 33 0 = _ from (own_narc ((own_b 32)).ch).symm) j)
  refine W.g_aloadN (pc1 := 261) P219.q d7_260 rfl rfl rfl ?_
  refine W.g_iloadN (pc1 := 262) P219.q d7_261 rfl rfl ?_
  refine W.g_bipush (pc1 := 264) (v := (34 : Int32)) P219.q d7_262 (by decide) rfl ?_
  refine W.g_iadd (pc1 := 265) P219.q d7_264 rfl ?_
  refine W.g_bipush (pc1 := 267) (v := (45 : Int32)) P219.q d7_265 (by decide) rfl ?_
  rw [show Int32.ofNat o + (34 : Int32) = Int32.ofNat (o + 34) from own_add o 34]
  show W.Go p.tables e below _ (T219.setTop (mkF m 267 #[.val (.ref d), .val (.int (Int32.ofNat o)), .val (.int ca), .val (.int cb), .val (.int ct)] [(.int (45 : Int32)), (.int (Int32.ofNat (o + 34))), (.ref d)]))
  refine P219.stCg (pc1 := 268) (x := (45 : Int32)) A_34 (i := o + 34) (by omega) (Or.inl (List.mem_singleton.mpr rfl)) W.safe0 d7_267 rfl ?_
  intro T220 h220 P220 W220 G220
  have A_35 : W.Arg Z h220 d kd .char n (own_part (own_core ca cb ct) o 35 f) := G220.congr (fun j _ => own_pstep (show (own_core ca cb ct).getD 34 0 = _ from (own_narc ((own_b 45)).ch).symm) j)
  refine W.g_aloadN (pc1 := 269) P220.q d7_268 rfl rfl rfl ?_
  refine W.g_iloadN (pc1 := 270) P220.q d7_269 rfl rfl ?_
  refine W.g_bipush (pc1 := 272) (v := (35 : Int32)) P220.q d7_270 (by decide) rfl ?_
  refine W.g_iadd (pc1 := 273) P220.q d7_272 rfl ?_
  refine W.g_bipush (pc1 := 275) (v := (32 : Int32)) P220.q d7_273 (by decide) rfl ?_
  rw [show Int32.ofNat o + (35 : Int32) = Int32.ofNat (o + 35) from own_add o 35]
  show W.Go p.tables e below _ (T220.setTop (mkF m 275 #[.val (.ref d), .val (.int (Int32.ofNat o)), .val (.int ca), .val (.int cb), .val (.int ct)] [(.int (32 : Int32)), (.int (Int32.ofNat (o + 35))), (.ref d)]))
  refine P220.stCg (pc1 := 276) (x := (32 : Int32)) A_35 (i := o + 35) (by omega) (Or.inl (List.mem_singleton.mpr rfl)) W.safe0 d7_275 rfl ?_
  intro T221 h221 P221 W221 G221
  have A_36 : W.Arg Z h221 d kd .char n (own_part (own_core ca cb ct) o 36 f) := G221.congr (fun j _ => own_pstep (show (own_core ca cb ct).getD 35 0 = _ from (own_narc ((own_b 32)).ch).symm) j)
  refine W.g_aloadN (pc1 := 277) P221.q d7_276 rfl rfl rfl ?_
  refine W.g_iloadN (pc1 := 278) P221.q d7_277 rfl rfl ?_
  refine W.g_bipush (pc1 := 280) (v := (36 : Int32)) P221.q d7_278 (by decide) rfl ?_
  refine W.g_iadd (pc1 := 281) P221.q d7_280 rfl ?_
  refine W.g_iloadN (pc1 := 282) P221.q d7_281 rfl rfl ?_
  rw [show Int32.ofNat o + (36 : Int32) = Int32.ofNat (o + 36) from own_add o 36]
  show W.Go p.tables e below _ (T221.setTop (mkF m 282 #[.val (.ref d), .val (.int (Int32.ofNat o)), .val (.int ca), .val (.int cb), .val (.int ct)] [(.int cb), (.int (Int32.ofNat (o + 36))), (.ref d)]))
  refine P221.stCg (pc1 := 283) (x := cb) A_36 (i := o + 36) (by omega) (Or.inl (List.mem_singleton.mpr rfl)) W.safe0 d7_282 rfl ?_
  intro T222 h222 P222 W222 G222
  have A_37 : W.Arg Z h222 d kd .char n (own_part (own_core ca cb ct) o 37 f) := G222.congr (fun j _ => own_pstep (show (own_core ca cb ct).getD 36 0 = _ from (own_narc (bb).ch).symm) j)
  refine W.g_aloadN (pc1 := 284) P222.q d7_283 rfl rfl rfl ?_
  refine W.g_iloadN (pc1 := 285) P222.q d7_284 rfl rfl ?_
  refine W.g_bipush (pc1 := 287) (v := (37 : Int32)) P222.q d7_285 (by decide) rfl ?_
  refine W.g_iadd (pc1 := 288) P222.q d7_287 rfl ?_
  refine W.g_bipush (pc1 := 290) (v := (41 : Int32)) P222.q d7_288 (by decide) rfl ?_
  rw [show Int32.ofNat o + (37 : Int32) = Int32.ofNat (o + 37) from own_add o 37]
  show W.Go p.tables e below _ (T222.setTop (mkF m 290 #[.val (.ref d), .val (.int (Int32.ofNat o)), .val (.int ca), .val (.int cb), .val (.int ct)] [(.int (41 : Int32)), (.int (Int32.ofNat (o + 37))), (.ref d)]))
  refine P222.stCg (pc1 := 291) (x := (41 : Int32)) A_37 (i := o + 37) (by omega) (Or.inl (List.mem_singleton.mpr rfl)) W.safe0 d7_290 rfl ?_
  intro T223 h223 P223 W223 G223
  have A_38 : W.Arg Z h223 d kd .char n (own_part (own_core ca cb ct) o 38 f) := G223.congr (fun j _ => own_pstep (show (own_core ca cb ct).getD 37 0 = _ from (own_narc ((own_b 41)).ch).symm) j)
  refine W.g_aloadN (pc1 := 292) P223.q d7_291 rfl rfl rfl ?_
  refine W.g_iloadN (pc1 := 293) P223.q d7_292 rfl rfl ?_
  refine W.g_bipush (pc1 := 295) (v := (38 : Int32)) P223.q d7_293 (by decide) rfl ?_
  refine W.g_iadd (pc1 := 296) P223.q d7_295 rfl ?_
  refine W.g_bipush (pc1 := 298) (v := (32 : Int32)) P223.q d7_296 (by decide) rfl ?_
  rw [show Int32.ofNat o + (38 : Int32) = Int32.ofNat (o + 38) from own_add o 38]
  show W.Go p.tables e below _ (T223.setTop (mkF m 298 #[.val (.ref d), .val (.int (Int32.ofNat o)), .val (.int ca), .val (.int cb), .val (.int ct)] [(.int (32 : Int32)), (.int (Int32.ofNat (o + 38))), (.ref d)]))
  refine P223.stCg (pc1 := 299) (x := (32 : Int32)) A_38 (i := o + 38) (by omega) (Or.inl (List.mem_singleton.mpr rfl)) W.safe0 d7_298 rfl ?_
  intro T224 h224 P224 W224 G224
  have A_39 : W.Arg Z h224 d kd .char n (own_part (own_core ca cb ct) o 39 f) := G224.congr (fun j _ => own_pstep (show (own_core ca cb ct).getD 38 0 = _ from (own_narc ((own_b 32)).ch).symm) j)
  refine W.g_aloadN (pc1 := 300) P224.q d7_299 rfl rfl rfl ?_
  refine W.g_iloadN (pc1 := 301) P224.q d7_300 rfl rfl ?_
  refine W.g_bipush (pc1 := 303) (v := (39 : Int32)) P224.q d7_301 (by decide) rfl ?_
  refine W.g_iadd (pc1 := 304) P224.q d7_303 rfl ?_
  refine W.g_bipush (pc1 := 306) (v := (60 : Int32)) P224.q d7_304 (by decide) rfl ?_
  rw [show Int32.ofNat o + (39 : Int32) = Int32.ofNat (o + 39) from own_add o 39]
  show W.Go p.tables e below _ (T224.setTop (mkF m 306 #[.val (.ref d), .val (.int (Int32.ofNat o)), .val (.int ca), .val (.int cb), .val (.int ct)] [(.int (60 : Int32)), (.int (Int32.ofNat (o + 39))), (.ref d)]))
  refine P224.stCg (pc1 := 307) (x := (60 : Int32)) A_39 (i := o + 39) (by omega) (Or.inl (List.mem_singleton.mpr rfl)) W.safe0 d7_306 rfl ?_
  intro T225 h225 P225 W225 G225
  have A_40 : W.Arg Z h225 d kd .char n (own_part (own_core ca cb ct) o 40 f) := G225.congr (fun j _ => own_pstep (show (own_core ca cb ct).getD 39 0 = _ from (own_narc ((own_b 60)).ch).symm) j)
  refine W.g_aloadN (pc1 := 308) P225.q d7_307 rfl rfl rfl ?_
  refine W.g_iloadN (pc1 := 309) P225.q d7_308 rfl rfl ?_
  refine W.g_bipush (pc1 := 311) (v := (40 : Int32)) P225.q d7_309 (by decide) rfl ?_
  refine W.g_iadd (pc1 := 312) P225.q d7_311 rfl ?_
  refine W.g_bipush (pc1 := 314) (v := (61 : Int32)) P225.q d7_312 (by decide) rfl ?_
  rw [show Int32.ofNat o + (40 : Int32) = Int32.ofNat (o + 40) from own_add o 40]
  show W.Go p.tables e below _ (T225.setTop (mkF m 314 #[.val (.ref d), .val (.int (Int32.ofNat o)), .val (.int ca), .val (.int cb), .val (.int ct)] [(.int (61 : Int32)), (.int (Int32.ofNat (o + 40))), (.ref d)]))
  refine P225.stCg (pc1 := 315) (x := (61 : Int32)) A_40 (i := o + 40) (by omega) (Or.inl (List.mem_singleton.mpr rfl)) W.safe0 d7_314 rfl ?_
  intro T226 h226 P226 W226 G226
  have A_41 : W.Arg Z h226 d kd .char n (own_part (own_core ca cb ct) o 41 f) := G226.congr (fun j _ => own_pstep (show (own_core ca cb ct).getD 40 0 = _ from (own_narc ((own_b 61)).ch).symm) j)
  refine W.g_aloadN (pc1 := 316) P226.q d7_315 rfl rfl rfl ?_
  refine W.g_iloadN (pc1 := 317) P226.q d7_316 rfl rfl ?_
  refine W.g_bipush (pc1 := 319) (v := (41 : Int32)) P226.q d7_317 (by decide) rfl ?_
  refine W.g_iadd (pc1 := 320) P226.q d7_319 rfl ?_
  refine W.g_bipush (pc1 := 322) (v := (32 : Int32)) P226.q d7_320 (by decide) rfl ?_
  rw [show Int32.ofNat o + (41 : Int32) = Int32.ofNat (o + 41) from own_add o 41]
  show W.Go p.tables e below _ (T226.setTop (mkF m 322 #[.val (.ref d), .val (.int (Int32.ofNat o)), .val (.int ca), .val (.int cb), .val (.int ct)] [(.int (32 : Int32)), (.int (Int32.ofNat (o + 41))), (.ref d)]))
  refine P226.stCg (pc1 := 323) (x := (32 : Int32)) A_41 (i := o + 41) (by omega) (Or.inl (List.mem_singleton.mpr rfl)) W.safe0 d7_322 rfl ?_
  intro T227 h227 P227 W227 G227
  have A_42 : W.Arg Z h227 d kd .char n (own_part (own_core ca cb ct) o 42 f) := G227.congr (fun j _ => own_pstep (show (own_core ca cb ct).getD 41 0 = _ from (own_narc ((own_b 32)).ch).symm) j)
  refine W.g_aloadN (pc1 := 324) P227.q d7_323 rfl rfl rfl ?_
  refine W.g_iloadN (pc1 := 325) P227.q d7_324 rfl rfl ?_
  refine W.g_bipush (pc1 := 327) (v := (42 : Int32)) P227.q d7_325 (by decide) rfl ?_
  refine W.g_iadd (pc1 := 328) P227.q d7_327 rfl ?_
  refine W.g_iload (pc1 := 330) P227.q d7_328 rfl rfl ?_
  rw [show Int32.ofNat o + (42 : Int32) = Int32.ofNat (o + 42) from own_add o 42]
  show W.Go p.tables e below _ (T227.setTop (mkF m 330 #[.val (.ref d), .val (.int (Int32.ofNat o)), .val (.int ca), .val (.int cb), .val (.int ct)] [(.int ct), (.int (Int32.ofNat (o + 42))), (.ref d)]))
  refine P227.stCg (pc1 := 331) (x := ct) A_42 (i := o + 42) (by omega) (Or.inl (List.mem_singleton.mpr rfl)) W.safe0 d7_330 rfl ?_
  intro T228 h228 P228 W228 G228
  have A_43 : W.Arg Z h228 d kd .char n (own_part (own_core ca cb ct) o 43 f) := G228.congr (fun j _ => own_pstep (show (own_core ca cb ct).getD 42 0 = _ from (own_narc (bt).ch).symm) j)
  refine W.g_aloadN (pc1 := 332) P228.q d7_331 rfl rfl rfl ?_
  refine W.g_iloadN (pc1 := 333) P228.q d7_332 rfl rfl ?_
  refine W.g_bipush (pc1 := 335) (v := (43 : Int32)) P228.q d7_333 (by decide) rfl ?_
  refine W.g_iadd (pc1 := 336) P228.q d7_335 rfl ?_
  refine W.g_bipush (pc1 := 338) (v := (32 : Int32)) P228.q d7_336 (by decide) rfl ?_
  rw [show Int32.ofNat o + (43 : Int32) = Int32.ofNat (o + 43) from own_add o 43]
  show W.Go p.tables e below _ (T228.setTop (mkF m 338 #[.val (.ref d), .val (.int (Int32.ofNat o)), .val (.int ca), .val (.int cb), .val (.int ct)] [(.int (32 : Int32)), (.int (Int32.ofNat (o + 43))), (.ref d)]))
  refine P228.stCg (pc1 := 339) (x := (32 : Int32)) A_43 (i := o + 43) (by omega) (Or.inl (List.mem_singleton.mpr rfl)) W.safe0 d7_338 rfl ?_
  intro T229 h229 P229 W229 G229
  have A_44 : W.Arg Z h229 d kd .char n (own_part (own_core ca cb ct) o 44 f) := G229.congr (fun j _ => own_pstep (show (own_core ca cb ct).getD 43 0 = _ from (own_narc ((own_b 32)).ch).symm) j)
  refine W.g_aloadN (pc1 := 340) P229.q d7_339 rfl rfl rfl ?_
  refine W.g_iloadN (pc1 := 341) P229.q d7_340 rfl rfl ?_
  refine W.g_bipush (pc1 := 343) (v := (44 : Int32)) P229.q d7_341 (by decide) rfl ?_
  refine W.g_iadd (pc1 := 344) P229.q d7_343 rfl ?_
  refine W.g_bipush (pc1 := 346) (v := (42 : Int32)) P229.q d7_344 (by decide) rfl ?_
  rw [show Int32.ofNat o + (44 : Int32) = Int32.ofNat (o + 44) from own_add o 44]
  show W.Go p.tables e below _ (T229.setTop (mkF m 346 #[.val (.ref d), .val (.int (Int32.ofNat o)), .val (.int ca), .val (.int cb), .val (.int ct)] [(.int (42 : Int32)), (.int (Int32.ofNat (o + 44))), (.ref d)]))
  refine P229.stCg (pc1 := 347) (x := (42 : Int32)) A_44 (i := o + 44) (by omega) (Or.inl (List.mem_singleton.mpr rfl)) W.safe0 d7_346 rfl ?_
  intro T230 h230 P230 W230 G230
  have A_45 : W.Arg Z h230 d kd .char n (own_part (own_core ca cb ct) o 45 f) := G230.congr (fun j _ => own_pstep (show (own_core ca cb ct).getD 44 0 = _ from (own_narc ((own_b 42)).ch).symm) j)
  refine W.g_aloadN (pc1 := 348) P230.q d7_347 rfl rfl rfl ?_
  refine W.g_iloadN (pc1 := 349) P230.q d7_348 rfl rfl ?_
  refine W.g_bipush (pc1 := 351) (v := (45 : Int32)) P230.q d7_349 (by decide) rfl ?_
  refine W.g_iadd (pc1 := 352) P230.q d7_351 rfl ?_
  refine W.g_bipush (pc1 := 354) (v := (32 : Int32)) P230.q d7_352 (by decide) rfl ?_
  rw [show Int32.ofNat o + (45 : Int32) = Int32.ofNat (o + 45) from own_add o 45]
  show W.Go p.tables e below _ (T230.setTop (mkF m 354 #[.val (.ref d), .val (.int (Int32.ofNat o)), .val (.int ca), .val (.int cb), .val (.int ct)] [(.int (32 : Int32)), (.int (Int32.ofNat (o + 45))), (.ref d)]))
  refine P230.stCg (pc1 := 355) (x := (32 : Int32)) A_45 (i := o + 45) (by omega) (Or.inl (List.mem_singleton.mpr rfl)) W.safe0 d7_354 rfl ?_
  intro T231 h231 P231 W231 G231
  have A_46 : W.Arg Z h231 d kd .char n (own_part (own_core ca cb ct) o 46 f) := G231.congr (fun j _ => own_pstep (show (own_core ca cb ct).getD 45 0 = _ from (own_narc ((own_b 32)).ch).symm) j)
  refine W.g_aloadN (pc1 := 356) P231.q d7_355 rfl rfl rfl ?_
  refine W.g_iloadN (pc1 := 357) P231.q d7_356 rfl rfl ?_
  refine W.g_bipush (pc1 := 359) (v := (46 : Int32)) P231.q d7_357 (by decide) rfl ?_
  refine W.g_iadd (pc1 := 360) P231.q d7_359 rfl ?_
  refine W.g_bipush (pc1 := 362) (v := (97 : Int32)) P231.q d7_360 (by decide) rfl ?_
  rw [show Int32.ofNat o + (46 : Int32) = Int32.ofNat (o + 46) from own_add o 46]
  show W.Go p.tables e below _ (T231.setTop (mkF m 362 #[.val (.ref d), .val (.int (Int32.ofNat o)), .val (.int ca), .val (.int cb), .val (.int ct)] [(.int (97 : Int32)), (.int (Int32.ofNat (o + 46))), (.ref d)]))
  refine P231.stCg (pc1 := 363) (x := (97 : Int32)) A_46 (i := o + 46) (by omega) (Or.inl (List.mem_singleton.mpr rfl)) W.safe0 d7_362 rfl ?_
  intro T232 h232 P232 W232 G232
  have A_47 : W.Arg Z h232 d kd .char n (own_part (own_core ca cb ct) o 47 f) := G232.congr (fun j _ => own_pstep (show (own_core ca cb ct).getD 46 0 = _ from (own_narc ((own_b 97)).ch).symm) j)
  refine W.g_aloadN (pc1 := 364) P232.q d7_363 rfl rfl rfl ?_
  refine W.g_iloadN (pc1 := 365) P232.q d7_364 rfl rfl ?_
  refine W.g_bipush (pc1 := 367) (v := (47 : Int32)) P232.q d7_365 (by decide) rfl ?_
  refine W.g_iadd (pc1 := 368) P232.q d7_367 rfl ?_
  refine W.g_bipush (pc1 := 370) (v := (98 : Int32)) P232.q d7_368 (by decide) rfl ?_
  rw [show Int32.ofNat o + (47 : Int32) = Int32.ofNat (o + 47) from own_add o 47]
  show W.Go p.tables e below _ (T232.setTop (mkF m 370 #[.val (.ref d), .val (.int (Int32.ofNat o)), .val (.int ca), .val (.int cb), .val (.int ct)] [(.int (98 : Int32)), (.int (Int32.ofNat (o + 47))), (.ref d)]))
  refine P232.stCg (pc1 := 371) (x := (98 : Int32)) A_47 (i := o + 47) (by omega) (Or.inl (List.mem_singleton.mpr rfl)) W.safe0 d7_370 rfl ?_
  intro T233 h233 P233 W233 G233
  have A_48 : W.Arg Z h233 d kd .char n (own_part (own_core ca cb ct) o 48 f) := G233.congr (fun j _ => own_pstep (show (own_core ca cb ct).getD 47 0 = _ from (own_narc ((own_b 98)).ch).symm) j)
  refine W.g_aloadN (pc1 := 372) P233.q d7_371 rfl rfl rfl ?_
  refine W.g_iloadN (pc1 := 373) P233.q d7_372 rfl rfl ?_
  refine W.g_bipush (pc1 := 375) (v := (48 : Int32)) P233.q d7_373 (by decide) rfl ?_
  refine W.g_iadd (pc1 := 376) P233.q d7_375 rfl ?_
  refine W.g_bipush (pc1 := 378) (v := (115 : Int32)) P233.q d7_376 (by decide) rfl ?_
  rw [show Int32.ofNat o + (48 : Int32) = Int32.ofNat (o + 48) from own_add o 48]
  show W.Go p.tables e below _ (T233.setTop (mkF m 378 #[.val (.ref d), .val (.int (Int32.ofNat o)), .val (.int ca), .val (.int cb), .val (.int ct)] [(.int (115 : Int32)), (.int (Int32.ofNat (o + 48))), (.ref d)]))
  refine P233.stCg (pc1 := 379) (x := (115 : Int32)) A_48 (i := o + 48) (by omega) (Or.inl (List.mem_singleton.mpr rfl)) W.safe0 d7_378 rfl ?_
  intro T234 h234 P234 W234 G234
  have A_49 : W.Arg Z h234 d kd .char n (own_part (own_core ca cb ct) o 49 f) := G234.congr (fun j _ => own_pstep (show (own_core ca cb ct).getD 48 0 = _ from (own_narc ((own_b 115)).ch).symm) j)
  refine W.g_aloadN (pc1 := 380) P234.q d7_379 rfl rfl rfl ?_
  refine W.g_iloadN (pc1 := 381) P234.q d7_380 rfl rfl ?_
  refine W.g_bipush (pc1 := 383) (v := (49 : Int32)) P234.q d7_381 (by decide) rfl ?_
  refine W.g_iadd (pc1 := 384) P234.q d7_383 rfl ?_
  refine W.g_bipush (pc1 := 386) (v := (40 : Int32)) P234.q d7_384 (by decide) rfl ?_
  rw [show Int32.ofNat o + (49 : Int32) = Int32.ofNat (o + 49) from own_add o 49]
  show W.Go p.tables e below _ (T234.setTop (mkF m 386 #[.val (.ref d), .val (.int (Int32.ofNat o)), .val (.int ca), .val (.int cb), .val (.int ct)] [(.int (40 : Int32)), (.int (Int32.ofNat (o + 49))), (.ref d)]))
  refine P234.stCg (pc1 := 387) (x := (40 : Int32)) A_49 (i := o + 49) (by omega) (Or.inl (List.mem_singleton.mpr rfl)) W.safe0 d7_386 rfl ?_
  intro T235 h235 P235 W235 G235
  have A_50 : W.Arg Z h235 d kd .char n (own_part (own_core ca cb ct) o 50 f) := G235.congr (fun j _ => own_pstep (show (own_core ca cb ct).getD 49 0 = _ from (own_narc ((own_b 40)).ch).symm) j)
  refine W.g_aloadN (pc1 := 388) P235.q d7_387 rfl rfl rfl ?_
  refine W.g_iloadN (pc1 := 389) P235.q d7_388 rfl rfl ?_
  refine W.g_bipush (pc1 := 391) (v := (50 : Int32)) P235.q d7_389 (by decide) rfl ?_
  refine W.g_iadd (pc1 := 392) P235.q d7_391 rfl ?_
  refine W.g_iloadN (pc1 := 393) P235.q d7_392 rfl rfl ?_
  rw [show Int32.ofNat o + (50 : Int32) = Int32.ofNat (o + 50) from own_add o 50]
  show W.Go p.tables e below _ (T235.setTop (mkF m 393 #[.val (.ref d), .val (.int (Int32.ofNat o)), .val (.int ca), .val (.int cb), .val (.int ct)] [(.int cb), (.int (Int32.ofNat (o + 50))), (.ref d)]))
  refine P235.stCg (pc1 := 394) (x := cb) A_50 (i := o + 50) (by omega) (Or.inl (List.mem_singleton.mpr rfl)) W.safe0 d7_393 rfl ?_
  intro T236 h236 P236 W236 G236
  have A_51 : W.Arg Z h236 d kd .char n (own_part (own_core ca cb ct) o 51 f) := G236.congr (fun j _ => own_pstep (show (own_core ca cb ct).getD 50 0 = _ from (own_narc (bb).ch).symm) j)
  refine W.g_aloadN (pc1 := 395) P236.q d7_394 rfl rfl rfl ?_
  refine W.g_iloadN (pc1 := 396) P236.q d7_395 rfl rfl ?_
  refine W.g_bipush (pc1 := 398) (v := (51 : Int32)) P236.q d7_396 (by decide) rfl ?_
  refine W.g_iadd (pc1 := 399) P236.q d7_398 rfl ?_
  refine W.g_bipush (pc1 := 401) (v := (41 : Int32)) P236.q d7_399 (by decide) rfl ?_
  rw [show Int32.ofNat o + (51 : Int32) = Int32.ofNat (o + 51) from own_add o 51]
  show W.Go p.tables e below _ (T236.setTop (mkF m 401 #[.val (.ref d), .val (.int (Int32.ofNat o)), .val (.int ca), .val (.int cb), .val (.int ct)] [(.int (41 : Int32)), (.int (Int32.ofNat (o + 51))), (.ref d)]))
  refine P236.stCg (pc1 := 402) (x := (41 : Int32)) A_51 (i := o + 51) (by omega) (Or.inl (List.mem_singleton.mpr rfl)) W.safe0 d7_401 rfl ?_
  intro T237 h237 P237 W237 G237
  have A_52 : W.Arg Z h237 d kd .char n (own_part (own_core ca cb ct) o 52 f) := G237.congr (fun j _ => own_pstep (show (own_core ca cb ct).getD 51 0 = _ from (own_narc ((own_b 41)).ch).symm) j)
  exact P237.retN hlk hret d7_402 (by decide) (by decide) ⟨rfl, P237.fr, P237.keep, A_52⟩
set_option maxRecDepth 65536 in
set_option maxHeartbeats 40000000 in
theorem c_head (l : Launch) (Z : State) (a0 : Array Value) (hw : ∀ d ∈ tables_1, d.before a0 Z = true) (ca cb op : Int32) (ba : By ca) (bb : By cb) (bo : By op) (d : Addr) (kd : ClassId) (n : Nat) (f : Nat → Int32) (h0 : Heap) (A : W.Arg Z h0 d kd .char n f) (ho : 6 ≤ n) : W.MetN l Z (⟨x.cls, "head", "([CCCC)V"⟩ : MethodName) method_3_code 4 ((Option.none : Option Jvm.ClassFile.FieldType)) [] ({ frames := 0, cells := 0, slots := 0, locals := 0 } : Room) #[.ref d, .int ca, .int cb, .int op]  h0 (QPt Z d kd n (own_part ([ca, 32, op, 32, cb, 32] : List Int32) 0 6 f) h0) := by
  refine W.MetN.mk (ls0 := #[.val (.ref d), .val (.int ca), .val (.int cb), .val (.int op)]) [d] (plainFor_of_name pn_law) (fun m => by first | (simp [entryFrame, mkF, argsToLocals, Value.category]; done) | rfl) ?_
  intro p e s m below meth c s₁ hml hret hnm hlk P0
  show W.Go p.tables e below _ (s₁.setTop (mkF m 0 #[.val (.ref d), .val (.int ca), .val (.int cb), .val (.int op)] []))
  have A_0 := A.congr (g := own_part ([ca, 32, op, 32, cb, 32] : List Int32) 0 0 f) (fun j _ => own_p0 j)
  refine W.g_aloadN (pc1 := 1) P0.q d13_0 rfl rfl rfl ?_
  refine W.g_iconst (pc1 := 2) (v := (0 : Int32)) P0.q d13_1 (by decide) rfl ?_
  refine W.g_iloadN (pc1 := 3) P0.q d13_2 rfl rfl ?_
  show W.Go p.tables e below _ (s₁.setTop (mkF m 3 #[.val (.ref d), .val (.int ca), .val (.int cb), .val (.int op)] [(.int ca), (.int (Int32.ofNat (0 + 0))), (.ref d)]))
  refine P0.stCg (pc1 := 4) (x := ca) A_0 (i := 0 + 0) (by omega) (Or.inl (List.mem_singleton.mpr rfl)) W.safe0 d13_3 rfl ?_
  intro T238 h238 P238 W238 G238
  have A_1 : W.Arg Z h238 d kd .char n (own_part ([ca, 32, op, 32, cb, 32] : List Int32) 0 1 f) := G238.congr (fun j _ => own_pstep (show ([ca, 32, op, 32, cb, 32] : List Int32).getD 0 0 = _ from (own_narc (ba).ch).symm) j)
  refine W.g_aloadN (pc1 := 5) P238.q d13_4 rfl rfl rfl ?_
  refine W.g_iconst (pc1 := 6) (v := (1 : Int32)) P238.q d13_5 (by decide) rfl ?_
  refine W.g_bipush (pc1 := 8) (v := (32 : Int32)) P238.q d13_6 (by decide) rfl ?_
  show W.Go p.tables e below _ (T238.setTop (mkF m 8 #[.val (.ref d), .val (.int ca), .val (.int cb), .val (.int op)] [(.int (32 : Int32)), (.int (Int32.ofNat (0 + 1))), (.ref d)]))
  refine P238.stCg (pc1 := 9) (x := (32 : Int32)) A_1 (i := 0 + 1) (by omega) (Or.inl (List.mem_singleton.mpr rfl)) W.safe0 d13_8 rfl ?_
  intro T239 h239 P239 W239 G239
  have A_2 : W.Arg Z h239 d kd .char n (own_part ([ca, 32, op, 32, cb, 32] : List Int32) 0 2 f) := G239.congr (fun j _ => own_pstep (show ([ca, 32, op, 32, cb, 32] : List Int32).getD 1 0 = _ from (own_narc ((own_b 32)).ch).symm) j)
  refine W.g_aloadN (pc1 := 10) P239.q d13_9 rfl rfl rfl ?_
  refine W.g_iconst (pc1 := 11) (v := (2 : Int32)) P239.q d13_10 (by decide) rfl ?_
  refine W.g_iloadN (pc1 := 12) P239.q d13_11 rfl rfl ?_
  show W.Go p.tables e below _ (T239.setTop (mkF m 12 #[.val (.ref d), .val (.int ca), .val (.int cb), .val (.int op)] [(.int op), (.int (Int32.ofNat (0 + 2))), (.ref d)]))
  refine P239.stCg (pc1 := 13) (x := op) A_2 (i := 0 + 2) (by omega) (Or.inl (List.mem_singleton.mpr rfl)) W.safe0 d13_12 rfl ?_
  intro T240 h240 P240 W240 G240
  have A_3 : W.Arg Z h240 d kd .char n (own_part ([ca, 32, op, 32, cb, 32] : List Int32) 0 3 f) := G240.congr (fun j _ => own_pstep (show ([ca, 32, op, 32, cb, 32] : List Int32).getD 2 0 = _ from (own_narc (bo).ch).symm) j)
  refine W.g_aloadN (pc1 := 14) P240.q d13_13 rfl rfl rfl ?_
  refine W.g_iconst (pc1 := 15) (v := (3 : Int32)) P240.q d13_14 (by decide) rfl ?_
  refine W.g_bipush (pc1 := 17) (v := (32 : Int32)) P240.q d13_15 (by decide) rfl ?_
  show W.Go p.tables e below _ (T240.setTop (mkF m 17 #[.val (.ref d), .val (.int ca), .val (.int cb), .val (.int op)] [(.int (32 : Int32)), (.int (Int32.ofNat (0 + 3))), (.ref d)]))
  refine P240.stCg (pc1 := 18) (x := (32 : Int32)) A_3 (i := 0 + 3) (by omega) (Or.inl (List.mem_singleton.mpr rfl)) W.safe0 d13_17 rfl ?_
  intro T241 h241 P241 W241 G241
  have A_4 : W.Arg Z h241 d kd .char n (own_part ([ca, 32, op, 32, cb, 32] : List Int32) 0 4 f) := G241.congr (fun j _ => own_pstep (show ([ca, 32, op, 32, cb, 32] : List Int32).getD 3 0 = _ from (own_narc ((own_b 32)).ch).symm) j)
  refine W.g_aloadN (pc1 := 19) P241.q d13_18 rfl rfl rfl ?_
  refine W.g_iconst (pc1 := 20) (v := (4 : Int32)) P241.q d13_19 (by decide) rfl ?_
  refine W.g_iloadN (pc1 := 21) P241.q d13_20 rfl rfl ?_
  show W.Go p.tables e below _ (T241.setTop (mkF m 21 #[.val (.ref d), .val (.int ca), .val (.int cb), .val (.int op)] [(.int cb), (.int (Int32.ofNat (0 + 4))), (.ref d)]))
  refine P241.stCg (pc1 := 22) (x := cb) A_4 (i := 0 + 4) (by omega) (Or.inl (List.mem_singleton.mpr rfl)) W.safe0 d13_21 rfl ?_
  intro T242 h242 P242 W242 G242
  have A_5 : W.Arg Z h242 d kd .char n (own_part ([ca, 32, op, 32, cb, 32] : List Int32) 0 5 f) := G242.congr (fun j _ => own_pstep (show ([ca, 32, op, 32, cb, 32] : List Int32).getD 4 0 = _ from (own_narc (bb).ch).symm) j)
  refine W.g_aloadN (pc1 := 23) P242.q d13_22 rfl rfl rfl ?_
  refine W.g_iconst (pc1 := 24) (v := (5 : Int32)) P242.q d13_23 (by decide) rfl ?_
  refine W.g_bipush (pc1 := 26) (v := (32 : Int32)) P242.q d13_24 (by decide) rfl ?_
  show W.Go p.tables e below _ (T242.setTop (mkF m 26 #[.val (.ref d), .val (.int ca), .val (.int cb), .val (.int op)] [(.int (32 : Int32)), (.int (Int32.ofNat (0 + 5))), (.ref d)]))
  refine P242.stCg (pc1 := 27) (x := (32 : Int32)) A_5 (i := 0 + 5) (by omega) (Or.inl (List.mem_singleton.mpr rfl)) W.safe0 d13_26 rfl ?_
  intro T243 h243 P243 W243 G243
  have A_6 : W.Arg Z h243 d kd .char n (own_part ([ca, 32, op, 32, cb, 32] : List Int32) 0 6 f) := G243.congr (fun j _ => own_pstep (show ([ca, 32, op, 32, cb, 32] : List Int32).getD 5 0 = _ from (own_narc ((own_b 32)).ch).symm) j)
  exact P243.retN hlk hret d13_27 (by decide) (by decide) ⟨rfl, P243.fr, P243.keep, A_6⟩
def own_E0 (a b t : Int32) : List Int32 := [97, 98, 115, 40, a, 32, 45, 32, b, 41, 32, 60, 61, 32, t, 32, 42, 32, 97, 98, 115, 40, a, 41, 32, 111, 114, 32, 97, 98, 115, 40, a, 32, 45, 32, b, 41, 32, 60, 61, 32, t, 32, 42, 32, 97, 98, 115, 40, b, 41]
theorem own_Eb0 (ca cb ct : Int32) (ba : By ca) (bb : By cb) (bt : By ct) : ∀ c ∈ own_E0 ca cb ct, By c := (List.forall_mem_cons.mpr ⟨(own_b 97), (List.forall_mem_cons.mpr ⟨(own_b 98), (List.forall_mem_cons.mpr ⟨(own_b 115), (List.forall_mem_cons.mpr ⟨(own_b 40), (List.forall_mem_cons.mpr ⟨ba, (List.forall_mem_cons.mpr ⟨(own_b 32), (List.forall_mem_cons.mpr ⟨(own_b 45), (List.forall_mem_cons.mpr ⟨(own_b 32), (List.forall_mem_cons.mpr ⟨bb, (List.forall_mem_cons.mpr ⟨(own_b 41), (List.forall_mem_cons.mpr ⟨(own_b 32), (List.forall_mem_cons.mpr ⟨(own_b 60), (List.forall_mem_cons.mpr ⟨(own_b 61), (List.forall_mem_cons.mpr ⟨(own_b 32), (List.forall_mem_cons.mpr ⟨bt, (List.forall_mem_cons.mpr ⟨(own_b 32), (List.forall_mem_cons.mpr ⟨(own_b 42), (List.forall_mem_cons.mpr ⟨(own_b 32), (List.forall_mem_cons.mpr ⟨(own_b 97), (List.forall_mem_cons.mpr ⟨(own_b 98), (List.forall_mem_cons.mpr ⟨(own_b 115), (List.forall_mem_cons.mpr ⟨(own_b 40), (List.forall_mem_cons.mpr ⟨ba, (List.forall_mem_cons.mpr ⟨(own_b 41), (List.forall_mem_cons.mpr ⟨(own_b 32), (List.forall_mem_cons.mpr ⟨(own_b 111), (List.forall_mem_cons.mpr ⟨(own_b 114), (List.forall_mem_cons.mpr ⟨(own_b 32), (List.forall_mem_cons.mpr ⟨(own_b 97), (List.forall_mem_cons.mpr ⟨(own_b 98), (List.forall_mem_cons.mpr ⟨(own_b 115), (List.forall_mem_cons.mpr ⟨(own_b 40), (List.forall_mem_cons.mpr ⟨ba, (List.forall_mem_cons.mpr ⟨(own_b 32), (List.forall_mem_cons.mpr ⟨(own_b 45), (List.forall_mem_cons.mpr ⟨(own_b 32), (List.forall_mem_cons.mpr ⟨bb, (List.forall_mem_cons.mpr ⟨(own_b 41), (List.forall_mem_cons.mpr ⟨(own_b 32), (List.forall_mem_cons.mpr ⟨(own_b 60), (List.forall_mem_cons.mpr ⟨(own_b 61), (List.forall_mem_cons.mpr ⟨(own_b 32), (List.forall_mem_cons.mpr ⟨bt, (List.forall_mem_cons.mpr ⟨(own_b 32), (List.forall_mem_cons.mpr ⟨(own_b 42), (List.forall_mem_cons.mpr ⟨(own_b 32), (List.forall_mem_cons.mpr ⟨(own_b 97), (List.forall_mem_cons.mpr ⟨(own_b 98), (List.forall_mem_cons.mpr ⟨(own_b 115), (List.forall_mem_cons.mpr ⟨(own_b 40), (List.forall_mem_cons.mpr ⟨bb, (List.forall_mem_cons.mpr ⟨(own_b 41), (fun c hc => absurd hc (List.not_mem_nil))⟩)⟩)⟩)⟩)⟩)⟩)⟩)⟩)⟩)⟩)⟩)⟩)⟩)⟩)⟩)⟩)⟩)⟩)⟩)⟩)⟩)⟩)⟩)⟩)⟩)⟩)⟩)⟩)⟩)⟩)⟩)⟩)⟩)⟩)⟩)⟩)⟩)⟩)⟩)⟩)⟩)⟩)⟩)⟩)⟩)⟩)⟩)⟩)⟩)⟩)⟩)⟩)
def own_E1 (a b t : Int32) : List Int32 := [110, 111, 116, 32, 40, 97, 98, 115, 40, a, 32, 45, 32, b, 41, 32, 60, 61, 32, t, 32, 42, 32, 97, 98, 115, 40, a, 41, 32, 111, 114, 32, 97, 98, 115, 40, a, 32, 45, 32, b, 41, 32, 60, 61, 32, t, 32, 42, 32, 97, 98, 115, 40, b, 41, 41]
theorem own_Eb1 (ca cb ct : Int32) (ba : By ca) (bb : By cb) (bt : By ct) : ∀ c ∈ own_E1 ca cb ct, By c := (List.forall_mem_cons.mpr ⟨(own_b 110), (List.forall_mem_cons.mpr ⟨(own_b 111), (List.forall_mem_cons.mpr ⟨(own_b 116), (List.forall_mem_cons.mpr ⟨(own_b 32), (List.forall_mem_cons.mpr ⟨(own_b 40), (List.forall_mem_cons.mpr ⟨(own_b 97), (List.forall_mem_cons.mpr ⟨(own_b 98), (List.forall_mem_cons.mpr ⟨(own_b 115), (List.forall_mem_cons.mpr ⟨(own_b 40), (List.forall_mem_cons.mpr ⟨ba, (List.forall_mem_cons.mpr ⟨(own_b 32), (List.forall_mem_cons.mpr ⟨(own_b 45), (List.forall_mem_cons.mpr ⟨(own_b 32), (List.forall_mem_cons.mpr ⟨bb, (List.forall_mem_cons.mpr ⟨(own_b 41), (List.forall_mem_cons.mpr ⟨(own_b 32), (List.forall_mem_cons.mpr ⟨(own_b 60), (List.forall_mem_cons.mpr ⟨(own_b 61), (List.forall_mem_cons.mpr ⟨(own_b 32), (List.forall_mem_cons.mpr ⟨bt, (List.forall_mem_cons.mpr ⟨(own_b 32), (List.forall_mem_cons.mpr ⟨(own_b 42), (List.forall_mem_cons.mpr ⟨(own_b 32), (List.forall_mem_cons.mpr ⟨(own_b 97), (List.forall_mem_cons.mpr ⟨(own_b 98), (List.forall_mem_cons.mpr ⟨(own_b 115), (List.forall_mem_cons.mpr ⟨(own_b 40), (List.forall_mem_cons.mpr ⟨ba, (List.forall_mem_cons.mpr ⟨(own_b 41), (List.forall_mem_cons.mpr ⟨(own_b 32), (List.forall_mem_cons.mpr ⟨(own_b 111), (List.forall_mem_cons.mpr ⟨(own_b 114), (List.forall_mem_cons.mpr ⟨(own_b 32), (List.forall_mem_cons.mpr ⟨(own_b 97), (List.forall_mem_cons.mpr ⟨(own_b 98), (List.forall_mem_cons.mpr ⟨(own_b 115), (List.forall_mem_cons.mpr ⟨(own_b 40), (List.forall_mem_cons.mpr ⟨ba, (List.forall_mem_cons.mpr ⟨(own_b 32), (List.forall_mem_cons.mpr ⟨(own_b 45), (List.forall_mem_cons.mpr ⟨(own_b 32), (List.forall_mem_cons.mpr ⟨bb, (List.forall_mem_cons.mpr ⟨(own_b 41), (List.forall_mem_cons.mpr ⟨(own_b 32), (List.forall_mem_cons.mpr ⟨(own_b 60), (List.forall_mem_cons.mpr ⟨(own_b 61), (List.forall_mem_cons.mpr ⟨(own_b 32), (List.forall_mem_cons.mpr ⟨bt, (List.forall_mem_cons.mpr ⟨(own_b 32), (List.forall_mem_cons.mpr ⟨(own_b 42), (List.forall_mem_cons.mpr ⟨(own_b 32), (List.forall_mem_cons.mpr ⟨(own_b 97), (List.forall_mem_cons.mpr ⟨(own_b 98), (List.forall_mem_cons.mpr ⟨(own_b 115), (List.forall_mem_cons.mpr ⟨(own_b 40), (List.forall_mem_cons.mpr ⟨bb, (List.forall_mem_cons.mpr ⟨(own_b 41), (List.forall_mem_cons.mpr ⟨(own_b 41), (fun c hc => absurd hc (List.not_mem_nil))⟩)⟩)⟩)⟩)⟩)⟩)⟩)⟩)⟩)⟩)⟩)⟩)⟩)⟩)⟩)⟩)⟩)⟩)⟩)⟩)⟩)⟩)⟩)⟩)⟩)⟩)⟩)⟩)⟩)⟩)⟩)⟩)⟩)⟩)⟩)⟩)⟩)⟩)⟩)⟩)⟩)⟩)⟩)⟩)⟩)⟩)⟩)⟩)⟩)⟩)⟩)⟩)⟩)⟩)⟩)⟩)⟩)⟩)
def own_E2 (a b t : Int32) : List Int32 := [a, 32, 62, 32, b, 32, 97, 110, 100, 32, 110, 111, 116, 32, 40, 97, 98, 115, 40, a, 32, 45, 32, b, 41, 32, 60, 61, 32, t, 32, 42, 32, 97, 98, 115, 40, a, 41, 32, 111, 114, 32, 97, 98, 115, 40, a, 32, 45, 32, b, 41, 32, 60, 61, 32, t, 32, 42, 32, 97, 98, 115, 40, b, 41, 41]
theorem own_Eb2 (ca cb ct : Int32) (ba : By ca) (bb : By cb) (bt : By ct) : ∀ c ∈ own_E2 ca cb ct, By c := (List.forall_mem_cons.mpr ⟨ba, (List.forall_mem_cons.mpr ⟨(own_b 32), (List.forall_mem_cons.mpr ⟨(own_b 62), (List.forall_mem_cons.mpr ⟨(own_b 32), (List.forall_mem_cons.mpr ⟨bb, (List.forall_mem_cons.mpr ⟨(own_b 32), (List.forall_mem_cons.mpr ⟨(own_b 97), (List.forall_mem_cons.mpr ⟨(own_b 110), (List.forall_mem_cons.mpr ⟨(own_b 100), (List.forall_mem_cons.mpr ⟨(own_b 32), (List.forall_mem_cons.mpr ⟨(own_b 110), (List.forall_mem_cons.mpr ⟨(own_b 111), (List.forall_mem_cons.mpr ⟨(own_b 116), (List.forall_mem_cons.mpr ⟨(own_b 32), (List.forall_mem_cons.mpr ⟨(own_b 40), (List.forall_mem_cons.mpr ⟨(own_b 97), (List.forall_mem_cons.mpr ⟨(own_b 98), (List.forall_mem_cons.mpr ⟨(own_b 115), (List.forall_mem_cons.mpr ⟨(own_b 40), (List.forall_mem_cons.mpr ⟨ba, (List.forall_mem_cons.mpr ⟨(own_b 32), (List.forall_mem_cons.mpr ⟨(own_b 45), (List.forall_mem_cons.mpr ⟨(own_b 32), (List.forall_mem_cons.mpr ⟨bb, (List.forall_mem_cons.mpr ⟨(own_b 41), (List.forall_mem_cons.mpr ⟨(own_b 32), (List.forall_mem_cons.mpr ⟨(own_b 60), (List.forall_mem_cons.mpr ⟨(own_b 61), (List.forall_mem_cons.mpr ⟨(own_b 32), (List.forall_mem_cons.mpr ⟨bt, (List.forall_mem_cons.mpr ⟨(own_b 32), (List.forall_mem_cons.mpr ⟨(own_b 42), (List.forall_mem_cons.mpr ⟨(own_b 32), (List.forall_mem_cons.mpr ⟨(own_b 97), (List.forall_mem_cons.mpr ⟨(own_b 98), (List.forall_mem_cons.mpr ⟨(own_b 115), (List.forall_mem_cons.mpr ⟨(own_b 40), (List.forall_mem_cons.mpr ⟨ba, (List.forall_mem_cons.mpr ⟨(own_b 41), (List.forall_mem_cons.mpr ⟨(own_b 32), (List.forall_mem_cons.mpr ⟨(own_b 111), (List.forall_mem_cons.mpr ⟨(own_b 114), (List.forall_mem_cons.mpr ⟨(own_b 32), (List.forall_mem_cons.mpr ⟨(own_b 97), (List.forall_mem_cons.mpr ⟨(own_b 98), (List.forall_mem_cons.mpr ⟨(own_b 115), (List.forall_mem_cons.mpr ⟨(own_b 40), (List.forall_mem_cons.mpr ⟨ba, (List.forall_mem_cons.mpr ⟨(own_b 32), (List.forall_mem_cons.mpr ⟨(own_b 45), (List.forall_mem_cons.mpr ⟨(own_b 32), (List.forall_mem_cons.mpr ⟨bb, (List.forall_mem_cons.mpr ⟨(own_b 41), (List.forall_mem_cons.mpr ⟨(own_b 32), (List.forall_mem_cons.mpr ⟨(own_b 60), (List.forall_mem_cons.mpr ⟨(own_b 61), (List.forall_mem_cons.mpr ⟨(own_b 32), (List.forall_mem_cons.mpr ⟨bt, (List.forall_mem_cons.mpr ⟨(own_b 32), (List.forall_mem_cons.mpr ⟨(own_b 42), (List.forall_mem_cons.mpr ⟨(own_b 32), (List.forall_mem_cons.mpr ⟨(own_b 97), (List.forall_mem_cons.mpr ⟨(own_b 98), (List.forall_mem_cons.mpr ⟨(own_b 115), (List.forall_mem_cons.mpr ⟨(own_b 40), (List.forall_mem_cons.mpr ⟨bb, (List.forall_mem_cons.mpr ⟨(own_b 41), (List.forall_mem_cons.mpr ⟨(own_b 41), (fun c hc => absurd hc (List.not_mem_nil))⟩)⟩)⟩)⟩)⟩)⟩)⟩)⟩)⟩)⟩)⟩)⟩)⟩)⟩)⟩)⟩)⟩)⟩)⟩)⟩)⟩)⟩)⟩)⟩)⟩)⟩)⟩)⟩)⟩)⟩)⟩)⟩)⟩)⟩)⟩)⟩)⟩)⟩)⟩)⟩)⟩)⟩)⟩)⟩)⟩)⟩)⟩)⟩)⟩)⟩)⟩)⟩)⟩)⟩)⟩)⟩)⟩)⟩)⟩)⟩)⟩)⟩)⟩)⟩)⟩)⟩)⟩)⟩)
def own_E3 (a b t : Int32) : List Int32 := [a, 32, 62, 32, b, 32, 111, 114, 32, 97, 98, 115, 40, a, 32, 45, 32, b, 41, 32, 60, 61, 32, t, 32, 42, 32, 97, 98, 115, 40, a, 41, 32, 111, 114, 32, 97, 98, 115, 40, a, 32, 45, 32, b, 41, 32, 60, 61, 32, t, 32, 42, 32, 97, 98, 115, 40, b, 41]
theorem own_Eb3 (ca cb ct : Int32) (ba : By ca) (bb : By cb) (bt : By ct) : ∀ c ∈ own_E3 ca cb ct, By c := (List.forall_mem_cons.mpr ⟨ba, (List.forall_mem_cons.mpr ⟨(own_b 32), (List.forall_mem_cons.mpr ⟨(own_b 62), (List.forall_mem_cons.mpr ⟨(own_b 32), (List.forall_mem_cons.mpr ⟨bb, (List.forall_mem_cons.mpr ⟨(own_b 32), (List.forall_mem_cons.mpr ⟨(own_b 111), (List.forall_mem_cons.mpr ⟨(own_b 114), (List.forall_mem_cons.mpr ⟨(own_b 32), (List.forall_mem_cons.mpr ⟨(own_b 97), (List.forall_mem_cons.mpr ⟨(own_b 98), (List.forall_mem_cons.mpr ⟨(own_b 115), (List.forall_mem_cons.mpr ⟨(own_b 40), (List.forall_mem_cons.mpr ⟨ba, (List.forall_mem_cons.mpr ⟨(own_b 32), (List.forall_mem_cons.mpr ⟨(own_b 45), (List.forall_mem_cons.mpr ⟨(own_b 32), (List.forall_mem_cons.mpr ⟨bb, (List.forall_mem_cons.mpr ⟨(own_b 41), (List.forall_mem_cons.mpr ⟨(own_b 32), (List.forall_mem_cons.mpr ⟨(own_b 60), (List.forall_mem_cons.mpr ⟨(own_b 61), (List.forall_mem_cons.mpr ⟨(own_b 32), (List.forall_mem_cons.mpr ⟨bt, (List.forall_mem_cons.mpr ⟨(own_b 32), (List.forall_mem_cons.mpr ⟨(own_b 42), (List.forall_mem_cons.mpr ⟨(own_b 32), (List.forall_mem_cons.mpr ⟨(own_b 97), (List.forall_mem_cons.mpr ⟨(own_b 98), (List.forall_mem_cons.mpr ⟨(own_b 115), (List.forall_mem_cons.mpr ⟨(own_b 40), (List.forall_mem_cons.mpr ⟨ba, (List.forall_mem_cons.mpr ⟨(own_b 41), (List.forall_mem_cons.mpr ⟨(own_b 32), (List.forall_mem_cons.mpr ⟨(own_b 111), (List.forall_mem_cons.mpr ⟨(own_b 114), (List.forall_mem_cons.mpr ⟨(own_b 32), (List.forall_mem_cons.mpr ⟨(own_b 97), (List.forall_mem_cons.mpr ⟨(own_b 98), (List.forall_mem_cons.mpr ⟨(own_b 115), (List.forall_mem_cons.mpr ⟨(own_b 40), (List.forall_mem_cons.mpr ⟨ba, (List.forall_mem_cons.mpr ⟨(own_b 32), (List.forall_mem_cons.mpr ⟨(own_b 45), (List.forall_mem_cons.mpr ⟨(own_b 32), (List.forall_mem_cons.mpr ⟨bb, (List.forall_mem_cons.mpr ⟨(own_b 41), (List.forall_mem_cons.mpr ⟨(own_b 32), (List.forall_mem_cons.mpr ⟨(own_b 60), (List.forall_mem_cons.mpr ⟨(own_b 61), (List.forall_mem_cons.mpr ⟨(own_b 32), (List.forall_mem_cons.mpr ⟨bt, (List.forall_mem_cons.mpr ⟨(own_b 32), (List.forall_mem_cons.mpr ⟨(own_b 42), (List.forall_mem_cons.mpr ⟨(own_b 32), (List.forall_mem_cons.mpr ⟨(own_b 97), (List.forall_mem_cons.mpr ⟨(own_b 98), (List.forall_mem_cons.mpr ⟨(own_b 115), (List.forall_mem_cons.mpr ⟨(own_b 40), (List.forall_mem_cons.mpr ⟨bb, (List.forall_mem_cons.mpr ⟨(own_b 41), (fun c hc => absurd hc (List.not_mem_nil))⟩)⟩)⟩)⟩)⟩)⟩)⟩)⟩)⟩)⟩)⟩)⟩)⟩)⟩)⟩)⟩)⟩)⟩)⟩)⟩)⟩)⟩)⟩)⟩)⟩)⟩)⟩)⟩)⟩)⟩)⟩)⟩)⟩)⟩)⟩)⟩)⟩)⟩)⟩)⟩)⟩)⟩)⟩)⟩)⟩)⟩)⟩)⟩)⟩)⟩)⟩)⟩)⟩)⟩)⟩)⟩)⟩)⟩)⟩)⟩)⟩)
def own_E4 (a b t : Int32) : List Int32 := [a, 32, 60, 32, b, 32, 97, 110, 100, 32, 110, 111, 116, 32, 40, 97, 98, 115, 40, a, 32, 45, 32, b, 41, 32, 60, 61, 32, t, 32, 42, 32, 97, 98, 115, 40, a, 41, 32, 111, 114, 32, 97, 98, 115, 40, a, 32, 45, 32, b, 41, 32, 60, 61, 32, t, 32, 42, 32, 97, 98, 115, 40, b, 41, 41]
theorem own_Eb4 (ca cb ct : Int32) (ba : By ca) (bb : By cb) (bt : By ct) : ∀ c ∈ own_E4 ca cb ct, By c := (List.forall_mem_cons.mpr ⟨ba, (List.forall_mem_cons.mpr ⟨(own_b 32), (List.forall_mem_cons.mpr ⟨(own_b 60), (List.forall_mem_cons.mpr ⟨(own_b 32), (List.forall_mem_cons.mpr ⟨bb, (List.forall_mem_cons.mpr ⟨(own_b 32), (List.forall_mem_cons.mpr ⟨(own_b 97), (List.forall_mem_cons.mpr ⟨(own_b 110), (List.forall_mem_cons.mpr ⟨(own_b 100), (List.forall_mem_cons.mpr ⟨(own_b 32), (List.forall_mem_cons.mpr ⟨(own_b 110), (List.forall_mem_cons.mpr ⟨(own_b 111), (List.forall_mem_cons.mpr ⟨(own_b 116), (List.forall_mem_cons.mpr ⟨(own_b 32), (List.forall_mem_cons.mpr ⟨(own_b 40), (List.forall_mem_cons.mpr ⟨(own_b 97), (List.forall_mem_cons.mpr ⟨(own_b 98), (List.forall_mem_cons.mpr ⟨(own_b 115), (List.forall_mem_cons.mpr ⟨(own_b 40), (List.forall_mem_cons.mpr ⟨ba, (List.forall_mem_cons.mpr ⟨(own_b 32), (List.forall_mem_cons.mpr ⟨(own_b 45), (List.forall_mem_cons.mpr ⟨(own_b 32), (List.forall_mem_cons.mpr ⟨bb, (List.forall_mem_cons.mpr ⟨(own_b 41), (List.forall_mem_cons.mpr ⟨(own_b 32), (List.forall_mem_cons.mpr ⟨(own_b 60), (List.forall_mem_cons.mpr ⟨(own_b 61), (List.forall_mem_cons.mpr ⟨(own_b 32), (List.forall_mem_cons.mpr ⟨bt, (List.forall_mem_cons.mpr ⟨(own_b 32), (List.forall_mem_cons.mpr ⟨(own_b 42), (List.forall_mem_cons.mpr ⟨(own_b 32), (List.forall_mem_cons.mpr ⟨(own_b 97), (List.forall_mem_cons.mpr ⟨(own_b 98), (List.forall_mem_cons.mpr ⟨(own_b 115), (List.forall_mem_cons.mpr ⟨(own_b 40), (List.forall_mem_cons.mpr ⟨ba, (List.forall_mem_cons.mpr ⟨(own_b 41), (List.forall_mem_cons.mpr ⟨(own_b 32), (List.forall_mem_cons.mpr ⟨(own_b 111), (List.forall_mem_cons.mpr ⟨(own_b 114), (List.forall_mem_cons.mpr ⟨(own_b 32), (List.forall_mem_cons.mpr ⟨(own_b 97), (List.forall_mem_cons.mpr ⟨(own_b 98), (List.forall_mem_cons.mpr ⟨(own_b 115), (List.forall_mem_cons.mpr ⟨(own_b 40), (List.forall_mem_cons.mpr ⟨ba, (List.forall_mem_cons.mpr ⟨(own_b 32), (List.forall_mem_cons.mpr ⟨(own_b 45), (List.forall_mem_cons.mpr ⟨(own_b 32), (List.forall_mem_cons.mpr ⟨bb, (List.forall_mem_cons.mpr ⟨(own_b 41), (List.forall_mem_cons.mpr ⟨(own_b 32), (List.forall_mem_cons.mpr ⟨(own_b 60), (List.forall_mem_cons.mpr ⟨(own_b 61), (List.forall_mem_cons.mpr ⟨(own_b 32), (List.forall_mem_cons.mpr ⟨bt, (List.forall_mem_cons.mpr ⟨(own_b 32), (List.forall_mem_cons.mpr ⟨(own_b 42), (List.forall_mem_cons.mpr ⟨(own_b 32), (List.forall_mem_cons.mpr ⟨(own_b 97), (List.forall_mem_cons.mpr ⟨(own_b 98), (List.forall_mem_cons.mpr ⟨(own_b 115), (List.forall_mem_cons.mpr ⟨(own_b 40), (List.forall_mem_cons.mpr ⟨bb, (List.forall_mem_cons.mpr ⟨(own_b 41), (List.forall_mem_cons.mpr ⟨(own_b 41), (fun c hc => absurd hc (List.not_mem_nil))⟩)⟩)⟩)⟩)⟩)⟩)⟩)⟩)⟩)⟩)⟩)⟩)⟩)⟩)⟩)⟩)⟩)⟩)⟩)⟩)⟩)⟩)⟩)⟩)⟩)⟩)⟩)⟩)⟩)⟩)⟩)⟩)⟩)⟩)⟩)⟩)⟩)⟩)⟩)⟩)⟩)⟩)⟩)⟩)⟩)⟩)⟩)⟩)⟩)⟩)⟩)⟩)⟩)⟩)⟩)⟩)⟩)⟩)⟩)⟩)⟩)⟩)⟩)⟩)⟩)⟩)⟩)⟩)
def own_E5 (a b t : Int32) : List Int32 := [a, 32, 60, 32, b, 32, 111, 114, 32, 97, 98, 115, 40, a, 32, 45, 32, b, 41, 32, 60, 61, 32, t, 32, 42, 32, 97, 98, 115, 40, a, 41, 32, 111, 114, 32, 97, 98, 115, 40, a, 32, 45, 32, b, 41, 32, 60, 61, 32, t, 32, 42, 32, 97, 98, 115, 40, b, 41]
theorem own_Eb5 (ca cb ct : Int32) (ba : By ca) (bb : By cb) (bt : By ct) : ∀ c ∈ own_E5 ca cb ct, By c := (List.forall_mem_cons.mpr ⟨ba, (List.forall_mem_cons.mpr ⟨(own_b 32), (List.forall_mem_cons.mpr ⟨(own_b 60), (List.forall_mem_cons.mpr ⟨(own_b 32), (List.forall_mem_cons.mpr ⟨bb, (List.forall_mem_cons.mpr ⟨(own_b 32), (List.forall_mem_cons.mpr ⟨(own_b 111), (List.forall_mem_cons.mpr ⟨(own_b 114), (List.forall_mem_cons.mpr ⟨(own_b 32), (List.forall_mem_cons.mpr ⟨(own_b 97), (List.forall_mem_cons.mpr ⟨(own_b 98), (List.forall_mem_cons.mpr ⟨(own_b 115), (List.forall_mem_cons.mpr ⟨(own_b 40), (List.forall_mem_cons.mpr ⟨ba, (List.forall_mem_cons.mpr ⟨(own_b 32), (List.forall_mem_cons.mpr ⟨(own_b 45), (List.forall_mem_cons.mpr ⟨(own_b 32), (List.forall_mem_cons.mpr ⟨bb, (List.forall_mem_cons.mpr ⟨(own_b 41), (List.forall_mem_cons.mpr ⟨(own_b 32), (List.forall_mem_cons.mpr ⟨(own_b 60), (List.forall_mem_cons.mpr ⟨(own_b 61), (List.forall_mem_cons.mpr ⟨(own_b 32), (List.forall_mem_cons.mpr ⟨bt, (List.forall_mem_cons.mpr ⟨(own_b 32), (List.forall_mem_cons.mpr ⟨(own_b 42), (List.forall_mem_cons.mpr ⟨(own_b 32), (List.forall_mem_cons.mpr ⟨(own_b 97), (List.forall_mem_cons.mpr ⟨(own_b 98), (List.forall_mem_cons.mpr ⟨(own_b 115), (List.forall_mem_cons.mpr ⟨(own_b 40), (List.forall_mem_cons.mpr ⟨ba, (List.forall_mem_cons.mpr ⟨(own_b 41), (List.forall_mem_cons.mpr ⟨(own_b 32), (List.forall_mem_cons.mpr ⟨(own_b 111), (List.forall_mem_cons.mpr ⟨(own_b 114), (List.forall_mem_cons.mpr ⟨(own_b 32), (List.forall_mem_cons.mpr ⟨(own_b 97), (List.forall_mem_cons.mpr ⟨(own_b 98), (List.forall_mem_cons.mpr ⟨(own_b 115), (List.forall_mem_cons.mpr ⟨(own_b 40), (List.forall_mem_cons.mpr ⟨ba, (List.forall_mem_cons.mpr ⟨(own_b 32), (List.forall_mem_cons.mpr ⟨(own_b 45), (List.forall_mem_cons.mpr ⟨(own_b 32), (List.forall_mem_cons.mpr ⟨bb, (List.forall_mem_cons.mpr ⟨(own_b 41), (List.forall_mem_cons.mpr ⟨(own_b 32), (List.forall_mem_cons.mpr ⟨(own_b 60), (List.forall_mem_cons.mpr ⟨(own_b 61), (List.forall_mem_cons.mpr ⟨(own_b 32), (List.forall_mem_cons.mpr ⟨bt, (List.forall_mem_cons.mpr ⟨(own_b 32), (List.forall_mem_cons.mpr ⟨(own_b 42), (List.forall_mem_cons.mpr ⟨(own_b 32), (List.forall_mem_cons.mpr ⟨(own_b 97), (List.forall_mem_cons.mpr ⟨(own_b 98), (List.forall_mem_cons.mpr ⟨(own_b 115), (List.forall_mem_cons.mpr ⟨(own_b 40), (List.forall_mem_cons.mpr ⟨bb, (List.forall_mem_cons.mpr ⟨(own_b 41), (fun c hc => absurd hc (List.not_mem_nil))⟩)⟩)⟩)⟩)⟩)⟩)⟩)⟩)⟩)⟩)⟩)⟩)⟩)⟩)⟩)⟩)⟩)⟩)⟩)⟩)⟩)⟩)⟩)⟩)⟩)⟩)⟩)⟩)⟩)⟩)⟩)⟩)⟩)⟩)⟩)⟩)⟩)⟩)⟩)⟩)⟩)⟩)⟩)⟩)⟩)⟩)⟩)⟩)⟩)⟩)⟩)⟩)⟩)⟩)⟩)⟩)⟩)⟩)⟩)⟩)⟩)
def own_E (j a b t : Int32) : List Int32 := if j = 0 then own_E0 a b t else if j = 1 then own_E1 a b t else if j = 2 then own_E2 a b t else if j = 3 then own_E3 a b t else if j = 4 then own_E4 a b t else own_E5 a b t
set_option maxRecDepth 65536 in
set_option maxHeartbeats 40000000 in
theorem c_exp0 (l : Launch) (Z : State) (a0 : Array Value) (hw : ∀ d ∈ tables_1, d.before a0 Z = true) (ca cb ct : Int32) (ba : By ca) (bb : By cb) (bt : By ct) (h0 : Heap) (EZ : Ext Z.heap h0) (zc : Int32) (fm : Value) (US : UST Z zc fm) : W.MetN l Z (⟨x.cls, "expected", "(ICCC)Ljava/lang/String;"⟩ : MethodName) method_4_code 6 ((Option.some (Jvm.ClassFile.FieldType.object "java/lang/String"))) [] ({ frames := 5, cells := 3, slots := 140, locals := 100 } : Room) #[.int 0, .int ca, .int cb, .int ct]  h0 (QS Z (own_E0 ca cb ct) h0) := by
  refine W.MetN.mk (ls0 := #[.val (.int (0 : Int32)), .val (.int ca), .val (.int cb), .val (.int ct), .unset, .unset]) [] (plainFor_of_name pn_law) (fun m => by first | (simp [entryFrame, mkF, argsToLocals, Value.category]; done) | rfl) ?_
  intro p e s m below meth c s₁ hml hret hnm hlk P0
  show W.Go p.tables e below _ (s₁.setTop (mkF m 0 #[.val (.int (0 : Int32)), .val (.int ca), .val (.int cb), .val (.int ct), .unset, .unset] []))
  have hws : ∀ d ∈ StrChars.Road.words, d.before a0 Z = true := fun d hd => hw d (own_words d hd)
  refine W.g_iloadN (pc1 := 1) P0.q d6_0 rfl rfl ?_
  refine W.g_ifN (pc2 := 4) P0.q d6_1 rfl (by decide) ?_
  refine W.g_bipush (pc1 := 6) (v := (52 : Int32)) P0.q d6_4 (by decide) rfl ?_
  refine P0.newP (pc1 := 8) (cap := 52) (wd hw (k := 30) rfl) (by decide) (by decide) (by decide) (by decide) (by decide) d6_6 rfl ?_
  intro T244 h244 x244 k244 g244 P244 E244 V244
  have G_244 : W.Arg Z h244 x244 k244 .char 52 (fun _ => 0) := W.Arg.new (by decide) V244
  refine W.g_astore (pc1 := 10) (ls2 := #[.val (.int (0 : Int32)), .val (.int ca), .val (.int cb), .val (.int ct), .val (.ref x244), .unset]) P244.q d6_8 rfl rfl rfl ?_
  refine W.g_aload (pc1 := 12) P244.q d6_10 rfl rfl rfl ?_
  refine W.g_iconst (pc1 := 13) (v := (0 : Int32)) P244.q d6_12 (by decide) rfl ?_
  refine W.g_iloadN (pc1 := 14) P244.q d6_13 rfl rfl ?_
  refine W.g_iloadN (pc1 := 15) P244.q d6_14 rfl rfl ?_
  refine W.g_iloadN (pc1 := 16) P244.q d6_15 rfl rfl ?_
  show W.Go p.tables e below _ (T244.setTop (mkF m 16 #[.val (.int (0 : Int32)), .val (.int ca), .val (.int cb), .val (.int ct), .val (.ref x244), .unset] [(.int ct), (.int cb), (.int ca), (.int (Int32.ofNat 0)), (.ref x244)]))
  refine P244.callS (pc1 := 19) (wd hw (k := 31) rfl) (wd hw (k := 32) rfl) (wd hw (k := 28) rfl) (wd hw (k := 33) rfl) (by decide) (W.MetN.pay (W := 0) (c_core l Z a0 hw ca cb ct ba bb bt x244 k244 52 0 _ h244 G_244 (by decide)) P244 (wd hw (k := 33) rfl) (wd hw (k := 28) rfl) (by decide) (by decide)) (argsL := [(.ref x244), (.int (Int32.ofNat 0)), (.int ca), (.int cb), (.int ct)]) (st0 := []) (lenOf pd_ACICCC_R_V rfl) rfl rfl (Nat.le_of_eq rfl) (by rw [hml]; rfl) (by decide) (by decide) (fun _ _ _ q => ⟨q.2.1.up P244.sz (allS (Or.inr (Nat.le_of_eq g244.symm)) all0), CHr.keep q.2.2.1 (sfS W.safe0 sf0) P244.chv⟩) d6_16 rfl ?_
  intro v245 T245 h245 L245 q245 P245
  obtain ⟨rfl, f245, K245, G_245⟩ := q245
  show W.Go p.tables e below _ (T245.setTop (mkF m 19 #[.val (.int (0 : Int32)), .val (.int ca), .val (.int cb), .val (.int ct), .val (.ref x244), .unset] []))
  have VL : Arv Z h245 x244 k244 .char 52 ((own_E0 ca cb ct).map Value.int) (.int 0) := W.Arg.list G_245 rfl (fun i hi => match i, hi with | 0, _ => rfl | 1, _ => rfl | 2, _ => rfl | 3, _ => rfl | 4, _ => rfl | 5, _ => rfl | 6, _ => rfl | 7, _ => rfl | 8, _ => rfl | 9, _ => rfl | 10, _ => rfl | 11, _ => rfl | 12, _ => rfl | 13, _ => rfl | 14, _ => rfl | 15, _ => rfl | 16, _ => rfl | 17, _ => rfl | 18, _ => rfl | 19, _ => rfl | 20, _ => rfl | 21, _ => rfl | 22, _ => rfl | 23, _ => rfl | 24, _ => rfl | 25, _ => rfl | 26, _ => rfl | 27, _ => rfl | 28, _ => rfl | 29, _ => rfl | 30, _ => rfl | 31, _ => rfl | 32, _ => rfl | 33, _ => rfl | 34, _ => rfl | 35, _ => rfl | 36, _ => rfl | 37, _ => rfl | 38, _ => rfl | 39, _ => rfl | 40, _ => rfl | 41, _ => rfl | 42, _ => rfl | 43, _ => rfl | 44, _ => rfl | 45, _ => rfl | 46, _ => rfl | 47, _ => rfl | 48, _ => rfl | 49, _ => rfl | 50, _ => rfl | 51, _ => rfl | k + 52, hk => absurd hk (Nat.not_lt.mpr (Nat.le_add_left _ _)))
  refine P245.newO (pc1 := 22) (wd hw (k := 34) rfl) (wd hw (k := 10) rfl) (wd hw (k := 2) rfl) (by decide) (by decide) d6_19 rfl ?_
  intro T246 h246 x246 g246 P246 E246 A246 D246 U246
  have Fv : Fld Z h246 x246 "java/lang/String" "value" "[B" .null := D246 (Or.inr (wd hw (k := 23) rfl)) (ty := .array .byte) (by decide)
  have Fc : Fld Z h246 x246 "java/lang/String" "coder" "B" (.int 0) := D246 (Or.inr (wd hw (k := 25) rfl)) (ty := .byte) (by decide)
  refine W.g_dup (pc1 := 23) P246.q d6_22 rfl rfl ?_
  refine W.g_aload (pc1 := 25) P246.q d6_23 rfl rfl rfl ?_
  have hp : ∀ c ∈ (own_E0 ca cb ct), ¬ c < 0 ∧ ¬ (255 : Int32) < c := own_Eb0 ca cb ct ba bb bt
  refine P246.callN (pc1 := 28) rfl (wd hw (k := 35) rfl) (wd hw (k := 36) rfl) (wd hw (k := 37) rfl) (by decide) (StrChars.Road.backV (W := 1) P246.hz hws (kI := 4) (wd hw (k := 10) rfl) (cs := (own_E0 ca cb ct)) (bs := ((own_E0 ca cb ct)).map (fun c => c.toInt8.toInt32)) (n := 52) (n0 := h0.size) (by rw [g246]; exact P245.sz) P246.sz A246 Fv Fc (VL.ext E246) (US.2.1.ext (P246.extZ EZ all0)) US.1 rfl rfl (by decide) (by decide) hp rfl (by decide) (by decide)) (argsL := [(.ref x244)]) (st0 := [(.ref x246)]) (lenOf pd_AC_R_V rfl) rfl rfl (Nat.le_of_eq rfl) (by rw [hml]; rfl) (by decide) (by decide) (fun _ _ _ q => ⟨W.Frw.of_fr q.2.1 (Nat.le_refl _), CHr.keep q.2.2.1 (sfS W.safe0 sf0) P246.chv⟩) d6_25 rfl ?_
  intro v247 T247 h247 L247 q247 P247
  obtain ⟨rfl, f247, K247, A247, C247, t247, k247, b247, c247, d247, F247, V247⟩ := q247
  show W.Go p.tables e below _ (T247.setTop (mkF m 28 #[.val (.int (0 : Int32)), .val (.int ca), .val (.int cb), .val (.int ct), .val (.ref x244), .unset] [(.ref x246)]))
  have SR : W.Str Z h247 x246 (own_E0 ca cb ct) := ⟨t247, k247, _, _, _, A247, F247, C247, V247, StrChars.Road.codOf (cs := (own_E0 ca cb ct)) (n := 52) rfl (fun c hc => (hp c hc).2), fun c hc => ⟨(hp c hc).1, own_up (hp c hc).2⟩, Nat.le_of_ble_eq_true rfl⟩
  exact P247.retAN hlk hret rfl rfl rfl d6_28 (by decide) (by decide) ⟨x246, rfl, P247.fr, P247.ext0, SR⟩
set_option maxRecDepth 65536 in
set_option maxHeartbeats 40000000 in
theorem c_exp1 (l : Launch) (Z : State) (a0 : Array Value) (hw : ∀ d ∈ tables_1, d.before a0 Z = true) (ca cb ct : Int32) (ba : By ca) (bb : By cb) (bt : By ct) (h0 : Heap) (EZ : Ext Z.heap h0) (zc : Int32) (fm : Value) (US : UST Z zc fm) : W.MetN l Z (⟨x.cls, "expected", "(ICCC)Ljava/lang/String;"⟩ : MethodName) method_4_code 6 ((Option.some (Jvm.ClassFile.FieldType.object "java/lang/String"))) [] ({ frames := 5, cells := 3, slots := 140, locals := 100 } : Room) #[.int 1, .int ca, .int cb, .int ct]  h0 (QS Z (own_E1 ca cb ct) h0) := by
  refine W.MetN.mk (ls0 := #[.val (.int (1 : Int32)), .val (.int ca), .val (.int cb), .val (.int ct), .unset, .unset]) [] (plainFor_of_name pn_law) (fun m => by first | (simp [entryFrame, mkF, argsToLocals, Value.category]; done) | rfl) ?_
  intro p e s m below meth c s₁ hml hret hnm hlk P0
  show W.Go p.tables e below _ (s₁.setTop (mkF m 0 #[.val (.int (1 : Int32)), .val (.int ca), .val (.int cb), .val (.int ct), .unset, .unset] []))
  have hws : ∀ d ∈ StrChars.Road.words, d.before a0 Z = true := fun d hd => hw d (own_words d hd)
  refine W.g_iloadN (pc1 := 1) P0.q d6_0 rfl rfl ?_
  refine W.g_ifY (pc1 := 29) P0.q d6_1 (by decide) rfl (by decide) ?_
  refine W.g_iloadN (pc1 := 30) P0.q d6_29 rfl rfl ?_
  refine W.g_iconst (pc1 := 31) (v := (1 : Int32)) P0.q d6_30 (by decide) rfl ?_
  refine W.g_cmpN (pc2 := 34) P0.q d6_31 rfl (by decide) ?_
  refine W.g_bipush (pc1 := 36) (v := (58 : Int32)) P0.q d6_34 (by decide) rfl ?_
  refine P0.newP (pc1 := 38) (cap := 58) (wd hw (k := 30) rfl) (by decide) (by decide) (by decide) (by decide) (by decide) d6_36 rfl ?_
  intro T248 h248 x248 k248 g248 P248 E248 V248
  have G_248 : W.Arg Z h248 x248 k248 .char 58 (fun _ => 0) := W.Arg.new (by decide) V248
  refine W.g_astore (pc1 := 40) (ls2 := #[.val (.int (1 : Int32)), .val (.int ca), .val (.int cb), .val (.int ct), .val (.ref x248), .unset]) P248.q d6_38 rfl rfl rfl ?_
  refine W.g_aload (pc1 := 42) P248.q d6_40 rfl rfl rfl ?_
  refine W.g_iconst (pc1 := 43) (v := (0 : Int32)) P248.q d6_42 (by decide) rfl ?_
  refine W.g_bipush (pc1 := 45) (v := (110 : Int32)) P248.q d6_43 (by decide) rfl ?_
  show W.Go p.tables e below _ (T248.setTop (mkF m 45 #[.val (.int (1 : Int32)), .val (.int ca), .val (.int cb), .val (.int ct), .val (.ref x248), .unset] [(.int (110 : Int32)), (.int (Int32.ofNat 0)), (.ref x248)]))
  refine P248.stCg (pc1 := 46) (x := (110 : Int32)) G_248 (i := 0) (by decide) (Or.inr (Nat.le_of_eq g248.symm)) W.safe0 d6_45 rfl ?_
  intro T249 h249 P249 W249 G_249
  rw [own_narc ((own_b 110)).ch] at G_249
  refine W.g_aload (pc1 := 48) P249.q d6_46 rfl rfl rfl ?_
  refine W.g_iconst (pc1 := 49) (v := (1 : Int32)) P249.q d6_48 (by decide) rfl ?_
  refine W.g_bipush (pc1 := 51) (v := (111 : Int32)) P249.q d6_49 (by decide) rfl ?_
  show W.Go p.tables e below _ (T249.setTop (mkF m 51 #[.val (.int (1 : Int32)), .val (.int ca), .val (.int cb), .val (.int ct), .val (.ref x248), .unset] [(.int (111 : Int32)), (.int (Int32.ofNat 1)), (.ref x248)]))
  refine P249.stCg (pc1 := 52) (x := (111 : Int32)) G_249 (i := 1) (by decide) (Or.inr (Nat.le_of_eq g248.symm)) W.safe0 d6_51 rfl ?_
  intro T250 h250 P250 W250 G_250
  rw [own_narc ((own_b 111)).ch] at G_250
  refine W.g_aload (pc1 := 54) P250.q d6_52 rfl rfl rfl ?_
  refine W.g_iconst (pc1 := 55) (v := (2 : Int32)) P250.q d6_54 (by decide) rfl ?_
  refine W.g_bipush (pc1 := 57) (v := (116 : Int32)) P250.q d6_55 (by decide) rfl ?_
  show W.Go p.tables e below _ (T250.setTop (mkF m 57 #[.val (.int (1 : Int32)), .val (.int ca), .val (.int cb), .val (.int ct), .val (.ref x248), .unset] [(.int (116 : Int32)), (.int (Int32.ofNat 2)), (.ref x248)]))
  refine P250.stCg (pc1 := 58) (x := (116 : Int32)) G_250 (i := 2) (by decide) (Or.inr (Nat.le_of_eq g248.symm)) W.safe0 d6_57 rfl ?_
  intro T251 h251 P251 W251 G_251
  rw [own_narc ((own_b 116)).ch] at G_251
  refine W.g_aload (pc1 := 60) P251.q d6_58 rfl rfl rfl ?_
  refine W.g_iconst (pc1 := 61) (v := (3 : Int32)) P251.q d6_60 (by decide) rfl ?_
  refine W.g_bipush (pc1 := 63) (v := (32 : Int32)) P251.q d6_61 (by decide) rfl ?_
  show W.Go p.tables e below _ (T251.setTop (mkF m 63 #[.val (.int (1 : Int32)), .val (.int ca), .val (.int cb), .val (.int ct), .val (.ref x248), .unset] [(.int (32 : Int32)), (.int (Int32.ofNat 3)), (.ref x248)]))
  refine P251.stCg (pc1 := 64) (x := (32 : Int32)) G_251 (i := 3) (by decide) (Or.inr (Nat.le_of_eq g248.symm)) W.safe0 d6_63 rfl ?_
  intro T252 h252 P252 W252 G_252
  rw [own_narc ((own_b 32)).ch] at G_252
  refine W.g_aload (pc1 := 66) P252.q d6_64 rfl rfl rfl ?_
  refine W.g_iconst (pc1 := 67) (v := (4 : Int32)) P252.q d6_66 (by decide) rfl ?_
  refine W.g_bipush (pc1 := 69) (v := (40 : Int32)) P252.q d6_67 (by decide) rfl ?_
  show W.Go p.tables e below _ (T252.setTop (mkF m 69 #[.val (.int (1 : Int32)), .val (.int ca), .val (.int cb), .val (.int ct), .val (.ref x248), .unset] [(.int (40 : Int32)), (.int (Int32.ofNat 4)), (.ref x248)]))
  refine P252.stCg (pc1 := 70) (x := (40 : Int32)) G_252 (i := 4) (by decide) (Or.inr (Nat.le_of_eq g248.symm)) W.safe0 d6_69 rfl ?_
  intro T253 h253 P253 W253 G_253
  rw [own_narc ((own_b 40)).ch] at G_253
  refine W.g_aload (pc1 := 72) P253.q d6_70 rfl rfl rfl ?_
  refine W.g_iconst (pc1 := 73) (v := (5 : Int32)) P253.q d6_72 (by decide) rfl ?_
  refine W.g_iloadN (pc1 := 74) P253.q d6_73 rfl rfl ?_
  refine W.g_iloadN (pc1 := 75) P253.q d6_74 rfl rfl ?_
  refine W.g_iloadN (pc1 := 76) P253.q d6_75 rfl rfl ?_
  show W.Go p.tables e below _ (T253.setTop (mkF m 76 #[.val (.int (1 : Int32)), .val (.int ca), .val (.int cb), .val (.int ct), .val (.ref x248), .unset] [(.int ct), (.int cb), (.int ca), (.int (Int32.ofNat 5)), (.ref x248)]))
  refine P253.callS (pc1 := 79) (wd hw (k := 31) rfl) (wd hw (k := 32) rfl) (wd hw (k := 28) rfl) (wd hw (k := 33) rfl) (by decide) (W.MetN.pay (W := 0) (c_core l Z a0 hw ca cb ct ba bb bt x248 k248 58 5 _ h253 G_253 (by decide)) P253 (wd hw (k := 33) rfl) (wd hw (k := 28) rfl) (by decide) (by decide)) (argsL := [(.ref x248), (.int (Int32.ofNat 5)), (.int ca), (.int cb), (.int ct)]) (st0 := []) (lenOf pd_ACICCC_R_V rfl) rfl rfl (Nat.le_of_eq rfl) (by rw [hml]; rfl) (by decide) (by decide) (fun _ _ _ q => ⟨q.2.1.up P253.sz (allS (Or.inr (Nat.le_of_eq g248.symm)) all0), CHr.keep q.2.2.1 (sfS W.safe0 sf0) P253.chv⟩) d6_76 rfl ?_
  intro v254 T254 h254 L254 q254 P254
  obtain ⟨rfl, f254, K254, G_254⟩ := q254
  show W.Go p.tables e below _ (T254.setTop (mkF m 79 #[.val (.int (1 : Int32)), .val (.int ca), .val (.int cb), .val (.int ct), .val (.ref x248), .unset] []))
  refine W.g_aload (pc1 := 81) P254.q d6_79 rfl rfl rfl ?_
  refine W.g_bipush (pc1 := 83) (v := (57 : Int32)) P254.q d6_81 (by decide) rfl ?_
  refine W.g_bipush (pc1 := 85) (v := (41 : Int32)) P254.q d6_83 (by decide) rfl ?_
  show W.Go p.tables e below _ (T254.setTop (mkF m 85 #[.val (.int (1 : Int32)), .val (.int ca), .val (.int cb), .val (.int ct), .val (.ref x248), .unset] [(.int (41 : Int32)), (.int (Int32.ofNat 57)), (.ref x248)]))
  refine P254.stCg (pc1 := 86) (x := (41 : Int32)) G_254 (i := 57) (by decide) (Or.inr (Nat.le_of_eq g248.symm)) W.safe0 d6_85 rfl ?_
  intro T255 h255 P255 W255 G_255
  rw [own_narc ((own_b 41)).ch] at G_255
  have VL : Arv Z h255 x248 k248 .char 58 ((own_E1 ca cb ct).map Value.int) (.int 0) := W.Arg.list G_255 rfl (fun i hi => match i, hi with | 0, _ => rfl | 1, _ => rfl | 2, _ => rfl | 3, _ => rfl | 4, _ => rfl | 5, _ => rfl | 6, _ => rfl | 7, _ => rfl | 8, _ => rfl | 9, _ => rfl | 10, _ => rfl | 11, _ => rfl | 12, _ => rfl | 13, _ => rfl | 14, _ => rfl | 15, _ => rfl | 16, _ => rfl | 17, _ => rfl | 18, _ => rfl | 19, _ => rfl | 20, _ => rfl | 21, _ => rfl | 22, _ => rfl | 23, _ => rfl | 24, _ => rfl | 25, _ => rfl | 26, _ => rfl | 27, _ => rfl | 28, _ => rfl | 29, _ => rfl | 30, _ => rfl | 31, _ => rfl | 32, _ => rfl | 33, _ => rfl | 34, _ => rfl | 35, _ => rfl | 36, _ => rfl | 37, _ => rfl | 38, _ => rfl | 39, _ => rfl | 40, _ => rfl | 41, _ => rfl | 42, _ => rfl | 43, _ => rfl | 44, _ => rfl | 45, _ => rfl | 46, _ => rfl | 47, _ => rfl | 48, _ => rfl | 49, _ => rfl | 50, _ => rfl | 51, _ => rfl | 52, _ => rfl | 53, _ => rfl | 54, _ => rfl | 55, _ => rfl | 56, _ => rfl | 57, _ => rfl | k + 58, hk => absurd hk (Nat.not_lt.mpr (Nat.le_add_left _ _)))
  refine P255.newO (pc1 := 89) (wd hw (k := 34) rfl) (wd hw (k := 10) rfl) (wd hw (k := 2) rfl) (by decide) (by decide) d6_86 rfl ?_
  intro T256 h256 x256 g256 P256 E256 A256 D256 U256
  have Fv : Fld Z h256 x256 "java/lang/String" "value" "[B" .null := D256 (Or.inr (wd hw (k := 23) rfl)) (ty := .array .byte) (by decide)
  have Fc : Fld Z h256 x256 "java/lang/String" "coder" "B" (.int 0) := D256 (Or.inr (wd hw (k := 25) rfl)) (ty := .byte) (by decide)
  refine W.g_dup (pc1 := 90) P256.q d6_89 rfl rfl ?_
  refine W.g_aload (pc1 := 92) P256.q d6_90 rfl rfl rfl ?_
  have hp : ∀ c ∈ (own_E1 ca cb ct), ¬ c < 0 ∧ ¬ (255 : Int32) < c := own_Eb1 ca cb ct ba bb bt
  refine P256.callN (pc1 := 95) rfl (wd hw (k := 35) rfl) (wd hw (k := 36) rfl) (wd hw (k := 37) rfl) (by decide) (StrChars.Road.backV (W := 1) P256.hz hws (kI := 4) (wd hw (k := 10) rfl) (cs := (own_E1 ca cb ct)) (bs := ((own_E1 ca cb ct)).map (fun c => c.toInt8.toInt32)) (n := 58) (n0 := h0.size) (by rw [g256]; exact P255.sz) P256.sz A256 Fv Fc (VL.ext E256) (US.2.1.ext (P256.extZ EZ all0)) US.1 rfl rfl (by decide) (by decide) hp rfl (by decide) (by decide)) (argsL := [(.ref x248)]) (st0 := [(.ref x256)]) (lenOf pd_AC_R_V rfl) rfl rfl (Nat.le_of_eq rfl) (by rw [hml]; rfl) (by decide) (by decide) (fun _ _ _ q => ⟨W.Frw.of_fr q.2.1 (Nat.le_refl _), CHr.keep q.2.2.1 (sfS W.safe0 sf0) P256.chv⟩) d6_92 rfl ?_
  intro v257 T257 h257 L257 q257 P257
  obtain ⟨rfl, f257, K257, A257, C257, t257, k257, b257, c257, d257, F257, V257⟩ := q257
  show W.Go p.tables e below _ (T257.setTop (mkF m 95 #[.val (.int (1 : Int32)), .val (.int ca), .val (.int cb), .val (.int ct), .val (.ref x248), .unset] [(.ref x256)]))
  have SR : W.Str Z h257 x256 (own_E1 ca cb ct) := ⟨t257, k257, _, _, _, A257, F257, C257, V257, StrChars.Road.codOf (cs := (own_E1 ca cb ct)) (n := 58) rfl (fun c hc => (hp c hc).2), fun c hc => ⟨(hp c hc).1, own_up (hp c hc).2⟩, Nat.le_of_ble_eq_true rfl⟩
  exact P257.retAN hlk hret rfl rfl rfl d6_95 (by decide) (by decide) ⟨x256, rfl, P257.fr, P257.ext0, SR⟩
set_option maxRecDepth 65536 in
set_option maxHeartbeats 40000000 in
theorem c_exp2 (l : Launch) (Z : State) (a0 : Array Value) (hw : ∀ d ∈ tables_1, d.before a0 Z = true) (ca cb ct : Int32) (ba : By ca) (bb : By cb) (bt : By ct) (h0 : Heap) (EZ : Ext Z.heap h0) (zc : Int32) (fm : Value) (US : UST Z zc fm) : W.MetN l Z (⟨x.cls, "expected", "(ICCC)Ljava/lang/String;"⟩ : MethodName) method_4_code 6 ((Option.some (Jvm.ClassFile.FieldType.object "java/lang/String"))) [] ({ frames := 5, cells := 3, slots := 140, locals := 100 } : Room) #[.int 2, .int ca, .int cb, .int ct]  h0 (QS Z (own_E2 ca cb ct) h0) := by
  refine W.MetN.mk (ls0 := #[.val (.int (2 : Int32)), .val (.int ca), .val (.int cb), .val (.int ct), .unset, .unset]) [] (plainFor_of_name pn_law) (fun m => by first | (simp [entryFrame, mkF, argsToLocals, Value.category]; done) | rfl) ?_
  intro p e s m below meth c s₁ hml hret hnm hlk P0
  show W.Go p.tables e below _ (s₁.setTop (mkF m 0 #[.val (.int (2 : Int32)), .val (.int ca), .val (.int cb), .val (.int ct), .unset, .unset] []))
  have hws : ∀ d ∈ StrChars.Road.words, d.before a0 Z = true := fun d hd => hw d (own_words d hd)
  refine W.g_iloadN (pc1 := 1) P0.q d6_0 rfl rfl ?_
  refine W.g_ifY (pc1 := 29) P0.q d6_1 (by decide) rfl (by decide) ?_
  refine W.g_iloadN (pc1 := 30) P0.q d6_29 rfl rfl ?_
  refine W.g_iconst (pc1 := 31) (v := (1 : Int32)) P0.q d6_30 (by decide) rfl ?_
  refine W.g_cmpY (pc1 := 96) P0.q d6_31 (by decide) rfl (by decide) ?_
  refine W.g_iloadN (pc1 := 97) P0.q d6_96 rfl rfl ?_
  refine W.g_iconst (pc1 := 98) (v := (2 : Int32)) P0.q d6_97 (by decide) rfl ?_
  refine W.g_cmpY (pc1 := 106) P0.q d6_98 (by decide) rfl (by decide) ?_
  refine W.g_bipush (pc1 := 108) (v := (62 : Int32)) P0.q d6_106 (by decide) rfl ?_
  refine W.g_goto (pc1 := 113) P0.q d6_108 (by decide) rfl ?_
  refine W.g_istore (pc1 := 115) (ls2 := #[.val (.int (2 : Int32)), .val (.int ca), .val (.int cb), .val (.int ct), .val (.int (62 : Int32)), .unset]) P0.q d6_113 rfl rfl ?_
  refine W.g_iloadN (pc1 := 116) P0.q d6_115 rfl rfl ?_
  refine W.g_iconst (pc1 := 117) (v := (2 : Int32)) P0.q d6_116 (by decide) rfl ?_
  refine W.g_cmpY (pc1 := 125) P0.q d6_117 (by decide) rfl (by decide) ?_
  refine W.g_bipush (pc1 := 127) (v := (68 : Int32)) P0.q d6_125 (by decide) rfl ?_
  refine P0.newP (pc1 := 129) (cap := 68) (wd hw (k := 30) rfl) (by decide) (by decide) (by decide) (by decide) (by decide) d6_127 rfl ?_
  intro T258 h258 x258 k258 g258 P258 E258 V258
  have G_258 : W.Arg Z h258 x258 k258 .char 68 (fun _ => 0) := W.Arg.new (by decide) V258
  refine W.g_astore (pc1 := 131) (ls2 := #[.val (.int (2 : Int32)), .val (.int ca), .val (.int cb), .val (.int ct), .val (.int (62 : Int32)), .val (.ref x258)]) P258.q d6_129 rfl rfl rfl ?_
  refine W.g_aload (pc1 := 133) P258.q d6_131 rfl rfl rfl ?_
  refine W.g_iloadN (pc1 := 134) P258.q d6_133 rfl rfl ?_
  refine W.g_iloadN (pc1 := 135) P258.q d6_134 rfl rfl ?_
  refine W.g_iload (pc1 := 137) P258.q d6_135 rfl rfl ?_
  refine P258.callS (pc1 := 140) (wd hw (k := 51) rfl) (wd hw (k := 52) rfl) (wd hw (k := 28) rfl) (wd hw (k := 53) rfl) (by decide) (W.MetN.pay (W := 0) (c_head l Z a0 hw ca cb 62 ba bb (own_b 62) x258 k258 68 _ h258 G_258 (by decide)) P258 (wd hw (k := 53) rfl) (wd hw (k := 28) rfl) (by decide) (by decide)) (argsL := [(.ref x258), (.int ca), (.int cb), (.int (62 : Int32))]) (st0 := []) (lenOf pd_ACCCC_R_V rfl) rfl rfl (Nat.le_of_eq rfl) (by rw [hml]; rfl) (by decide) (by decide) (fun _ _ _ q => ⟨q.2.1.up P258.sz (allS (Or.inr (Nat.le_of_eq g258.symm)) all0), CHr.keep q.2.2.1 (sfS W.safe0 sf0) P258.chv⟩) d6_137 rfl ?_
  intro v259 T259 h259 L259 q259 P259
  obtain ⟨rfl, f259, K259, G_259⟩ := q259
  show W.Go p.tables e below _ (T259.setTop (mkF m 140 #[.val (.int (2 : Int32)), .val (.int ca), .val (.int cb), .val (.int ct), .val (.int (62 : Int32)), .val (.ref x258)] []))
  refine W.g_aload (pc1 := 142) P259.q d6_140 rfl rfl rfl ?_
  refine W.g_bipush (pc1 := 144) (v := (6 : Int32)) P259.q d6_142 (by decide) rfl ?_
  refine W.g_bipush (pc1 := 146) (v := (97 : Int32)) P259.q d6_144 (by decide) rfl ?_
  show W.Go p.tables e below _ (T259.setTop (mkF m 146 #[.val (.int (2 : Int32)), .val (.int ca), .val (.int cb), .val (.int ct), .val (.int (62 : Int32)), .val (.ref x258)] [(.int (97 : Int32)), (.int (Int32.ofNat 6)), (.ref x258)]))
  refine P259.stCg (pc1 := 147) (x := (97 : Int32)) G_259 (i := 6) (by decide) (Or.inr (Nat.le_of_eq g258.symm)) W.safe0 d6_146 rfl ?_
  intro T260 h260 P260 W260 G_260
  rw [own_narc ((own_b 97)).ch] at G_260
  refine W.g_aload (pc1 := 149) P260.q d6_147 rfl rfl rfl ?_
  refine W.g_bipush (pc1 := 151) (v := (7 : Int32)) P260.q d6_149 (by decide) rfl ?_
  refine W.g_bipush (pc1 := 153) (v := (110 : Int32)) P260.q d6_151 (by decide) rfl ?_
  show W.Go p.tables e below _ (T260.setTop (mkF m 153 #[.val (.int (2 : Int32)), .val (.int ca), .val (.int cb), .val (.int ct), .val (.int (62 : Int32)), .val (.ref x258)] [(.int (110 : Int32)), (.int (Int32.ofNat 7)), (.ref x258)]))
  refine P260.stCg (pc1 := 154) (x := (110 : Int32)) G_260 (i := 7) (by decide) (Or.inr (Nat.le_of_eq g258.symm)) W.safe0 d6_153 rfl ?_
  intro T261 h261 P261 W261 G_261
  rw [own_narc ((own_b 110)).ch] at G_261
  refine W.g_aload (pc1 := 156) P261.q d6_154 rfl rfl rfl ?_
  refine W.g_bipush (pc1 := 158) (v := (8 : Int32)) P261.q d6_156 (by decide) rfl ?_
  refine W.g_bipush (pc1 := 160) (v := (100 : Int32)) P261.q d6_158 (by decide) rfl ?_
  show W.Go p.tables e below _ (T261.setTop (mkF m 160 #[.val (.int (2 : Int32)), .val (.int ca), .val (.int cb), .val (.int ct), .val (.int (62 : Int32)), .val (.ref x258)] [(.int (100 : Int32)), (.int (Int32.ofNat 8)), (.ref x258)]))
  refine P261.stCg (pc1 := 161) (x := (100 : Int32)) G_261 (i := 8) (by decide) (Or.inr (Nat.le_of_eq g258.symm)) W.safe0 d6_160 rfl ?_
  intro T262 h262 P262 W262 G_262
  rw [own_narc ((own_b 100)).ch] at G_262
  refine W.g_aload (pc1 := 163) P262.q d6_161 rfl rfl rfl ?_
  refine W.g_bipush (pc1 := 165) (v := (9 : Int32)) P262.q d6_163 (by decide) rfl ?_
  refine W.g_bipush (pc1 := 167) (v := (32 : Int32)) P262.q d6_165 (by decide) rfl ?_
  show W.Go p.tables e below _ (T262.setTop (mkF m 167 #[.val (.int (2 : Int32)), .val (.int ca), .val (.int cb), .val (.int ct), .val (.int (62 : Int32)), .val (.ref x258)] [(.int (32 : Int32)), (.int (Int32.ofNat 9)), (.ref x258)]))
  refine P262.stCg (pc1 := 168) (x := (32 : Int32)) G_262 (i := 9) (by decide) (Or.inr (Nat.le_of_eq g258.symm)) W.safe0 d6_167 rfl ?_
  intro T263 h263 P263 W263 G_263
  rw [own_narc ((own_b 32)).ch] at G_263
  refine W.g_aload (pc1 := 170) P263.q d6_168 rfl rfl rfl ?_
  refine W.g_bipush (pc1 := 172) (v := (10 : Int32)) P263.q d6_170 (by decide) rfl ?_
  refine W.g_bipush (pc1 := 174) (v := (110 : Int32)) P263.q d6_172 (by decide) rfl ?_
  show W.Go p.tables e below _ (T263.setTop (mkF m 174 #[.val (.int (2 : Int32)), .val (.int ca), .val (.int cb), .val (.int ct), .val (.int (62 : Int32)), .val (.ref x258)] [(.int (110 : Int32)), (.int (Int32.ofNat 10)), (.ref x258)]))
  refine P263.stCg (pc1 := 175) (x := (110 : Int32)) G_263 (i := 10) (by decide) (Or.inr (Nat.le_of_eq g258.symm)) W.safe0 d6_174 rfl ?_
  intro T264 h264 P264 W264 G_264
  rw [own_narc ((own_b 110)).ch] at G_264
  refine W.g_aload (pc1 := 177) P264.q d6_175 rfl rfl rfl ?_
  refine W.g_bipush (pc1 := 179) (v := (11 : Int32)) P264.q d6_177 (by decide) rfl ?_
  refine W.g_bipush (pc1 := 181) (v := (111 : Int32)) P264.q d6_179 (by decide) rfl ?_
  show W.Go p.tables e below _ (T264.setTop (mkF m 181 #[.val (.int (2 : Int32)), .val (.int ca), .val (.int cb), .val (.int ct), .val (.int (62 : Int32)), .val (.ref x258)] [(.int (111 : Int32)), (.int (Int32.ofNat 11)), (.ref x258)]))
  refine P264.stCg (pc1 := 182) (x := (111 : Int32)) G_264 (i := 11) (by decide) (Or.inr (Nat.le_of_eq g258.symm)) W.safe0 d6_181 rfl ?_
  intro T265 h265 P265 W265 G_265
  rw [own_narc ((own_b 111)).ch] at G_265
  refine W.g_aload (pc1 := 184) P265.q d6_182 rfl rfl rfl ?_
  refine W.g_bipush (pc1 := 186) (v := (12 : Int32)) P265.q d6_184 (by decide) rfl ?_
  refine W.g_bipush (pc1 := 188) (v := (116 : Int32)) P265.q d6_186 (by decide) rfl ?_
  show W.Go p.tables e below _ (T265.setTop (mkF m 188 #[.val (.int (2 : Int32)), .val (.int ca), .val (.int cb), .val (.int ct), .val (.int (62 : Int32)), .val (.ref x258)] [(.int (116 : Int32)), (.int (Int32.ofNat 12)), (.ref x258)]))
  refine P265.stCg (pc1 := 189) (x := (116 : Int32)) G_265 (i := 12) (by decide) (Or.inr (Nat.le_of_eq g258.symm)) W.safe0 d6_188 rfl ?_
  intro T266 h266 P266 W266 G_266
  rw [own_narc ((own_b 116)).ch] at G_266
  refine W.g_aload (pc1 := 191) P266.q d6_189 rfl rfl rfl ?_
  refine W.g_bipush (pc1 := 193) (v := (13 : Int32)) P266.q d6_191 (by decide) rfl ?_
  refine W.g_bipush (pc1 := 195) (v := (32 : Int32)) P266.q d6_193 (by decide) rfl ?_
  show W.Go p.tables e below _ (T266.setTop (mkF m 195 #[.val (.int (2 : Int32)), .val (.int ca), .val (.int cb), .val (.int ct), .val (.int (62 : Int32)), .val (.ref x258)] [(.int (32 : Int32)), (.int (Int32.ofNat 13)), (.ref x258)]))
  refine P266.stCg (pc1 := 196) (x := (32 : Int32)) G_266 (i := 13) (by decide) (Or.inr (Nat.le_of_eq g258.symm)) W.safe0 d6_195 rfl ?_
  intro T267 h267 P267 W267 G_267
  rw [own_narc ((own_b 32)).ch] at G_267
  refine W.g_aload (pc1 := 198) P267.q d6_196 rfl rfl rfl ?_
  refine W.g_bipush (pc1 := 200) (v := (14 : Int32)) P267.q d6_198 (by decide) rfl ?_
  refine W.g_bipush (pc1 := 202) (v := (40 : Int32)) P267.q d6_200 (by decide) rfl ?_
  show W.Go p.tables e below _ (T267.setTop (mkF m 202 #[.val (.int (2 : Int32)), .val (.int ca), .val (.int cb), .val (.int ct), .val (.int (62 : Int32)), .val (.ref x258)] [(.int (40 : Int32)), (.int (Int32.ofNat 14)), (.ref x258)]))
  refine P267.stCg (pc1 := 203) (x := (40 : Int32)) G_267 (i := 14) (by decide) (Or.inr (Nat.le_of_eq g258.symm)) W.safe0 d6_202 rfl ?_
  intro T268 h268 P268 W268 G_268
  rw [own_narc ((own_b 40)).ch] at G_268
  refine W.g_aload (pc1 := 205) P268.q d6_203 rfl rfl rfl ?_
  refine W.g_bipush (pc1 := 207) (v := (15 : Int32)) P268.q d6_205 (by decide) rfl ?_
  refine W.g_iloadN (pc1 := 208) P268.q d6_207 rfl rfl ?_
  refine W.g_iloadN (pc1 := 209) P268.q d6_208 rfl rfl ?_
  refine W.g_iloadN (pc1 := 210) P268.q d6_209 rfl rfl ?_
  show W.Go p.tables e below _ (T268.setTop (mkF m 210 #[.val (.int (2 : Int32)), .val (.int ca), .val (.int cb), .val (.int ct), .val (.int (62 : Int32)), .val (.ref x258)] [(.int ct), (.int cb), (.int ca), (.int (Int32.ofNat 15)), (.ref x258)]))
  refine P268.callS (pc1 := 213) (wd hw (k := 31) rfl) (wd hw (k := 32) rfl) (wd hw (k := 28) rfl) (wd hw (k := 33) rfl) (by decide) (W.MetN.pay (W := 0) (c_core l Z a0 hw ca cb ct ba bb bt x258 k258 68 15 _ h268 G_268 (by decide)) P268 (wd hw (k := 33) rfl) (wd hw (k := 28) rfl) (by decide) (by decide)) (argsL := [(.ref x258), (.int (Int32.ofNat 15)), (.int ca), (.int cb), (.int ct)]) (st0 := []) (lenOf pd_ACICCC_R_V rfl) rfl rfl (Nat.le_of_eq rfl) (by rw [hml]; rfl) (by decide) (by decide) (fun _ _ _ q => ⟨q.2.1.up P268.sz (allS (Or.inr (Nat.le_of_eq g258.symm)) all0), CHr.keep q.2.2.1 (sfS W.safe0 sf0) P268.chv⟩) d6_210 rfl ?_
  intro v269 T269 h269 L269 q269 P269
  obtain ⟨rfl, f269, K269, G_269⟩ := q269
  show W.Go p.tables e below _ (T269.setTop (mkF m 213 #[.val (.int (2 : Int32)), .val (.int ca), .val (.int cb), .val (.int ct), .val (.int (62 : Int32)), .val (.ref x258)] []))
  refine W.g_aload (pc1 := 215) P269.q d6_213 rfl rfl rfl ?_
  refine W.g_bipush (pc1 := 217) (v := (67 : Int32)) P269.q d6_215 (by decide) rfl ?_
  refine W.g_bipush (pc1 := 219) (v := (41 : Int32)) P269.q d6_217 (by decide) rfl ?_
  show W.Go p.tables e below _ (T269.setTop (mkF m 219 #[.val (.int (2 : Int32)), .val (.int ca), .val (.int cb), .val (.int ct), .val (.int (62 : Int32)), .val (.ref x258)] [(.int (41 : Int32)), (.int (Int32.ofNat 67)), (.ref x258)]))
  refine P269.stCg (pc1 := 220) (x := (41 : Int32)) G_269 (i := 67) (by decide) (Or.inr (Nat.le_of_eq g258.symm)) W.safe0 d6_219 rfl ?_
  intro T270 h270 P270 W270 G_270
  rw [own_narc ((own_b 41)).ch] at G_270
  have VL : Arv Z h270 x258 k258 .char 68 ((own_E2 ca cb ct).map Value.int) (.int 0) := W.Arg.list G_270 rfl (fun i hi => match i, hi with | 0, _ => rfl | 1, _ => rfl | 2, _ => rfl | 3, _ => rfl | 4, _ => rfl | 5, _ => rfl | 6, _ => rfl | 7, _ => rfl | 8, _ => rfl | 9, _ => rfl | 10, _ => rfl | 11, _ => rfl | 12, _ => rfl | 13, _ => rfl | 14, _ => rfl | 15, _ => rfl | 16, _ => rfl | 17, _ => rfl | 18, _ => rfl | 19, _ => rfl | 20, _ => rfl | 21, _ => rfl | 22, _ => rfl | 23, _ => rfl | 24, _ => rfl | 25, _ => rfl | 26, _ => rfl | 27, _ => rfl | 28, _ => rfl | 29, _ => rfl | 30, _ => rfl | 31, _ => rfl | 32, _ => rfl | 33, _ => rfl | 34, _ => rfl | 35, _ => rfl | 36, _ => rfl | 37, _ => rfl | 38, _ => rfl | 39, _ => rfl | 40, _ => rfl | 41, _ => rfl | 42, _ => rfl | 43, _ => rfl | 44, _ => rfl | 45, _ => rfl | 46, _ => rfl | 47, _ => rfl | 48, _ => rfl | 49, _ => rfl | 50, _ => rfl | 51, _ => rfl | 52, _ => rfl | 53, _ => rfl | 54, _ => rfl | 55, _ => rfl | 56, _ => rfl | 57, _ => rfl | 58, _ => rfl | 59, _ => rfl | 60, _ => rfl | 61, _ => rfl | 62, _ => rfl | 63, _ => rfl | 64, _ => rfl | 65, _ => rfl | 66, _ => rfl | 67, _ => rfl | k + 68, hk => absurd hk (Nat.not_lt.mpr (Nat.le_add_left _ _)))
  refine P270.newO (pc1 := 223) (wd hw (k := 34) rfl) (wd hw (k := 10) rfl) (wd hw (k := 2) rfl) (by decide) (by decide) d6_220 rfl ?_
  intro T271 h271 x271 g271 P271 E271 A271 D271 U271
  have Fv : Fld Z h271 x271 "java/lang/String" "value" "[B" .null := D271 (Or.inr (wd hw (k := 23) rfl)) (ty := .array .byte) (by decide)
  have Fc : Fld Z h271 x271 "java/lang/String" "coder" "B" (.int 0) := D271 (Or.inr (wd hw (k := 25) rfl)) (ty := .byte) (by decide)
  refine W.g_dup (pc1 := 224) P271.q d6_223 rfl rfl ?_
  refine W.g_aload (pc1 := 226) P271.q d6_224 rfl rfl rfl ?_
  have hp : ∀ c ∈ (own_E2 ca cb ct), ¬ c < 0 ∧ ¬ (255 : Int32) < c := own_Eb2 ca cb ct ba bb bt
  refine P271.callN (pc1 := 229) rfl (wd hw (k := 35) rfl) (wd hw (k := 36) rfl) (wd hw (k := 37) rfl) (by decide) (StrChars.Road.backV (W := 1) P271.hz hws (kI := 4) (wd hw (k := 10) rfl) (cs := (own_E2 ca cb ct)) (bs := ((own_E2 ca cb ct)).map (fun c => c.toInt8.toInt32)) (n := 68) (n0 := h0.size) (by rw [g271]; exact P270.sz) P271.sz A271 Fv Fc (VL.ext E271) (US.2.1.ext (P271.extZ EZ all0)) US.1 rfl rfl (by decide) (by decide) hp rfl (by decide) (by decide)) (argsL := [(.ref x258)]) (st0 := [(.ref x271)]) (lenOf pd_AC_R_V rfl) rfl rfl (Nat.le_of_eq rfl) (by rw [hml]; rfl) (by decide) (by decide) (fun _ _ _ q => ⟨W.Frw.of_fr q.2.1 (Nat.le_refl _), CHr.keep q.2.2.1 (sfS W.safe0 sf0) P271.chv⟩) d6_226 rfl ?_
  intro v272 T272 h272 L272 q272 P272
  obtain ⟨rfl, f272, K272, A272, C272, t272, k272, b272, c272, d272, F272, V272⟩ := q272
  show W.Go p.tables e below _ (T272.setTop (mkF m 229 #[.val (.int (2 : Int32)), .val (.int ca), .val (.int cb), .val (.int ct), .val (.int (62 : Int32)), .val (.ref x258)] [(.ref x271)]))
  have SR : W.Str Z h272 x271 (own_E2 ca cb ct) := ⟨t272, k272, _, _, _, A272, F272, C272, V272, StrChars.Road.codOf (cs := (own_E2 ca cb ct)) (n := 68) rfl (fun c hc => (hp c hc).2), fun c hc => ⟨(hp c hc).1, own_up (hp c hc).2⟩, Nat.le_of_ble_eq_true rfl⟩
  exact P272.retAN hlk hret rfl rfl rfl d6_229 (by decide) (by decide) ⟨x271, rfl, P272.fr, P272.ext0, SR⟩
set_option maxRecDepth 65536 in
set_option maxHeartbeats 40000000 in
theorem c_exp3 (l : Launch) (Z : State) (a0 : Array Value) (hw : ∀ d ∈ tables_1, d.before a0 Z = true) (ca cb ct : Int32) (ba : By ca) (bb : By cb) (bt : By ct) (h0 : Heap) (EZ : Ext Z.heap h0) (zc : Int32) (fm : Value) (US : UST Z zc fm) : W.MetN l Z (⟨x.cls, "expected", "(ICCC)Ljava/lang/String;"⟩ : MethodName) method_4_code 6 ((Option.some (Jvm.ClassFile.FieldType.object "java/lang/String"))) [] ({ frames := 5, cells := 3, slots := 140, locals := 100 } : Room) #[.int 3, .int ca, .int cb, .int ct]  h0 (QS Z (own_E3 ca cb ct) h0) := by
  refine W.MetN.mk (ls0 := #[.val (.int (3 : Int32)), .val (.int ca), .val (.int cb), .val (.int ct), .unset, .unset]) [] (plainFor_of_name pn_law) (fun m => by first | (simp [entryFrame, mkF, argsToLocals, Value.category]; done) | rfl) ?_
  intro p e s m below meth c s₁ hml hret hnm hlk P0
  show W.Go p.tables e below _ (s₁.setTop (mkF m 0 #[.val (.int (3 : Int32)), .val (.int ca), .val (.int cb), .val (.int ct), .unset, .unset] []))
  have hws : ∀ d ∈ StrChars.Road.words, d.before a0 Z = true := fun d hd => hw d (own_words d hd)
  refine W.g_iloadN (pc1 := 1) P0.q d6_0 rfl rfl ?_
  refine W.g_ifY (pc1 := 29) P0.q d6_1 (by decide) rfl (by decide) ?_
  refine W.g_iloadN (pc1 := 30) P0.q d6_29 rfl rfl ?_
  refine W.g_iconst (pc1 := 31) (v := (1 : Int32)) P0.q d6_30 (by decide) rfl ?_
  refine W.g_cmpY (pc1 := 96) P0.q d6_31 (by decide) rfl (by decide) ?_
  refine W.g_iloadN (pc1 := 97) P0.q d6_96 rfl rfl ?_
  refine W.g_iconst (pc1 := 98) (v := (2 : Int32)) P0.q d6_97 (by decide) rfl ?_
  refine W.g_cmpN (pc2 := 101) P0.q d6_98 rfl (by decide) ?_
  refine W.g_iloadN (pc1 := 102) P0.q d6_101 rfl rfl ?_
  refine W.g_iconst (pc1 := 103) (v := (3 : Int32)) P0.q d6_102 (by decide) rfl ?_
  refine W.g_cmpN (pc2 := 106) P0.q d6_103 rfl (by decide) ?_
  refine W.g_bipush (pc1 := 108) (v := (62 : Int32)) P0.q d6_106 (by decide) rfl ?_
  refine W.g_goto (pc1 := 113) P0.q d6_108 (by decide) rfl ?_
  refine W.g_istore (pc1 := 115) (ls2 := #[.val (.int (3 : Int32)), .val (.int ca), .val (.int cb), .val (.int ct), .val (.int (62 : Int32)), .unset]) P0.q d6_113 rfl rfl ?_
  refine W.g_iloadN (pc1 := 116) P0.q d6_115 rfl rfl ?_
  refine W.g_iconst (pc1 := 117) (v := (2 : Int32)) P0.q d6_116 (by decide) rfl ?_
  refine W.g_cmpN (pc2 := 120) P0.q d6_117 rfl (by decide) ?_
  refine W.g_iloadN (pc1 := 121) P0.q d6_120 rfl rfl ?_
  refine W.g_iconst (pc1 := 122) (v := (4 : Int32)) P0.q d6_121 (by decide) rfl ?_
  refine W.g_cmpY (pc1 := 230) P0.q d6_122 (by decide) rfl (by decide) ?_
  refine W.g_bipush (pc1 := 232) (v := (61 : Int32)) P0.q d6_230 (by decide) rfl ?_
  refine P0.newP (pc1 := 234) (cap := 61) (wd hw (k := 30) rfl) (by decide) (by decide) (by decide) (by decide) (by decide) d6_232 rfl ?_
  intro T273 h273 x273 k273 g273 P273 E273 V273
  have G_273 : W.Arg Z h273 x273 k273 .char 61 (fun _ => 0) := W.Arg.new (by decide) V273
  refine W.g_astore (pc1 := 236) (ls2 := #[.val (.int (3 : Int32)), .val (.int ca), .val (.int cb), .val (.int ct), .val (.int (62 : Int32)), .val (.ref x273)]) P273.q d6_234 rfl rfl rfl ?_
  refine W.g_aload (pc1 := 238) P273.q d6_236 rfl rfl rfl ?_
  refine W.g_iloadN (pc1 := 239) P273.q d6_238 rfl rfl ?_
  refine W.g_iloadN (pc1 := 240) P273.q d6_239 rfl rfl ?_
  refine W.g_iload (pc1 := 242) P273.q d6_240 rfl rfl ?_
  refine P273.callS (pc1 := 245) (wd hw (k := 51) rfl) (wd hw (k := 52) rfl) (wd hw (k := 28) rfl) (wd hw (k := 53) rfl) (by decide) (W.MetN.pay (W := 0) (c_head l Z a0 hw ca cb 62 ba bb (own_b 62) x273 k273 61 _ h273 G_273 (by decide)) P273 (wd hw (k := 53) rfl) (wd hw (k := 28) rfl) (by decide) (by decide)) (argsL := [(.ref x273), (.int ca), (.int cb), (.int (62 : Int32))]) (st0 := []) (lenOf pd_ACCCC_R_V rfl) rfl rfl (Nat.le_of_eq rfl) (by rw [hml]; rfl) (by decide) (by decide) (fun _ _ _ q => ⟨q.2.1.up P273.sz (allS (Or.inr (Nat.le_of_eq g273.symm)) all0), CHr.keep q.2.2.1 (sfS W.safe0 sf0) P273.chv⟩) d6_242 rfl ?_
  intro v274 T274 h274 L274 q274 P274
  obtain ⟨rfl, f274, K274, G_274⟩ := q274
  show W.Go p.tables e below _ (T274.setTop (mkF m 245 #[.val (.int (3 : Int32)), .val (.int ca), .val (.int cb), .val (.int ct), .val (.int (62 : Int32)), .val (.ref x273)] []))
  refine W.g_aload (pc1 := 247) P274.q d6_245 rfl rfl rfl ?_
  refine W.g_bipush (pc1 := 249) (v := (6 : Int32)) P274.q d6_247 (by decide) rfl ?_
  refine W.g_bipush (pc1 := 251) (v := (111 : Int32)) P274.q d6_249 (by decide) rfl ?_
  show W.Go p.tables e below _ (T274.setTop (mkF m 251 #[.val (.int (3 : Int32)), .val (.int ca), .val (.int cb), .val (.int ct), .val (.int (62 : Int32)), .val (.ref x273)] [(.int (111 : Int32)), (.int (Int32.ofNat 6)), (.ref x273)]))
  refine P274.stCg (pc1 := 252) (x := (111 : Int32)) G_274 (i := 6) (by decide) (Or.inr (Nat.le_of_eq g273.symm)) W.safe0 d6_251 rfl ?_
  intro T275 h275 P275 W275 G_275
  rw [own_narc ((own_b 111)).ch] at G_275
  refine W.g_aload (pc1 := 254) P275.q d6_252 rfl rfl rfl ?_
  refine W.g_bipush (pc1 := 256) (v := (7 : Int32)) P275.q d6_254 (by decide) rfl ?_
  refine W.g_bipush (pc1 := 258) (v := (114 : Int32)) P275.q d6_256 (by decide) rfl ?_
  show W.Go p.tables e below _ (T275.setTop (mkF m 258 #[.val (.int (3 : Int32)), .val (.int ca), .val (.int cb), .val (.int ct), .val (.int (62 : Int32)), .val (.ref x273)] [(.int (114 : Int32)), (.int (Int32.ofNat 7)), (.ref x273)]))
  refine P275.stCg (pc1 := 259) (x := (114 : Int32)) G_275 (i := 7) (by decide) (Or.inr (Nat.le_of_eq g273.symm)) W.safe0 d6_258 rfl ?_
  intro T276 h276 P276 W276 G_276
  rw [own_narc ((own_b 114)).ch] at G_276
  refine W.g_aload (pc1 := 261) P276.q d6_259 rfl rfl rfl ?_
  refine W.g_bipush (pc1 := 263) (v := (8 : Int32)) P276.q d6_261 (by decide) rfl ?_
  refine W.g_bipush (pc1 := 265) (v := (32 : Int32)) P276.q d6_263 (by decide) rfl ?_
  show W.Go p.tables e below _ (T276.setTop (mkF m 265 #[.val (.int (3 : Int32)), .val (.int ca), .val (.int cb), .val (.int ct), .val (.int (62 : Int32)), .val (.ref x273)] [(.int (32 : Int32)), (.int (Int32.ofNat 8)), (.ref x273)]))
  refine P276.stCg (pc1 := 266) (x := (32 : Int32)) G_276 (i := 8) (by decide) (Or.inr (Nat.le_of_eq g273.symm)) W.safe0 d6_265 rfl ?_
  intro T277 h277 P277 W277 G_277
  rw [own_narc ((own_b 32)).ch] at G_277
  refine W.g_aload (pc1 := 268) P277.q d6_266 rfl rfl rfl ?_
  refine W.g_bipush (pc1 := 270) (v := (9 : Int32)) P277.q d6_268 (by decide) rfl ?_
  refine W.g_iloadN (pc1 := 271) P277.q d6_270 rfl rfl ?_
  refine W.g_iloadN (pc1 := 272) P277.q d6_271 rfl rfl ?_
  refine W.g_iloadN (pc1 := 273) P277.q d6_272 rfl rfl ?_
  show W.Go p.tables e below _ (T277.setTop (mkF m 273 #[.val (.int (3 : Int32)), .val (.int ca), .val (.int cb), .val (.int ct), .val (.int (62 : Int32)), .val (.ref x273)] [(.int ct), (.int cb), (.int ca), (.int (Int32.ofNat 9)), (.ref x273)]))
  refine P277.callS (pc1 := 276) (wd hw (k := 31) rfl) (wd hw (k := 32) rfl) (wd hw (k := 28) rfl) (wd hw (k := 33) rfl) (by decide) (W.MetN.pay (W := 0) (c_core l Z a0 hw ca cb ct ba bb bt x273 k273 61 9 _ h277 G_277 (by decide)) P277 (wd hw (k := 33) rfl) (wd hw (k := 28) rfl) (by decide) (by decide)) (argsL := [(.ref x273), (.int (Int32.ofNat 9)), (.int ca), (.int cb), (.int ct)]) (st0 := []) (lenOf pd_ACICCC_R_V rfl) rfl rfl (Nat.le_of_eq rfl) (by rw [hml]; rfl) (by decide) (by decide) (fun _ _ _ q => ⟨q.2.1.up P277.sz (allS (Or.inr (Nat.le_of_eq g273.symm)) all0), CHr.keep q.2.2.1 (sfS W.safe0 sf0) P277.chv⟩) d6_273 rfl ?_
  intro v278 T278 h278 L278 q278 P278
  obtain ⟨rfl, f278, K278, G_278⟩ := q278
  show W.Go p.tables e below _ (T278.setTop (mkF m 276 #[.val (.int (3 : Int32)), .val (.int ca), .val (.int cb), .val (.int ct), .val (.int (62 : Int32)), .val (.ref x273)] []))
  have VL : Arv Z h278 x273 k273 .char 61 ((own_E3 ca cb ct).map Value.int) (.int 0) := W.Arg.list G_278 rfl (fun i hi => match i, hi with | 0, _ => rfl | 1, _ => rfl | 2, _ => rfl | 3, _ => rfl | 4, _ => rfl | 5, _ => rfl | 6, _ => rfl | 7, _ => rfl | 8, _ => rfl | 9, _ => rfl | 10, _ => rfl | 11, _ => rfl | 12, _ => rfl | 13, _ => rfl | 14, _ => rfl | 15, _ => rfl | 16, _ => rfl | 17, _ => rfl | 18, _ => rfl | 19, _ => rfl | 20, _ => rfl | 21, _ => rfl | 22, _ => rfl | 23, _ => rfl | 24, _ => rfl | 25, _ => rfl | 26, _ => rfl | 27, _ => rfl | 28, _ => rfl | 29, _ => rfl | 30, _ => rfl | 31, _ => rfl | 32, _ => rfl | 33, _ => rfl | 34, _ => rfl | 35, _ => rfl | 36, _ => rfl | 37, _ => rfl | 38, _ => rfl | 39, _ => rfl | 40, _ => rfl | 41, _ => rfl | 42, _ => rfl | 43, _ => rfl | 44, _ => rfl | 45, _ => rfl | 46, _ => rfl | 47, _ => rfl | 48, _ => rfl | 49, _ => rfl | 50, _ => rfl | 51, _ => rfl | 52, _ => rfl | 53, _ => rfl | 54, _ => rfl | 55, _ => rfl | 56, _ => rfl | 57, _ => rfl | 58, _ => rfl | 59, _ => rfl | 60, _ => rfl | k + 61, hk => absurd hk (Nat.not_lt.mpr (Nat.le_add_left _ _)))
  refine P278.newO (pc1 := 279) (wd hw (k := 34) rfl) (wd hw (k := 10) rfl) (wd hw (k := 2) rfl) (by decide) (by decide) d6_276 rfl ?_
  intro T279 h279 x279 g279 P279 E279 A279 D279 U279
  have Fv : Fld Z h279 x279 "java/lang/String" "value" "[B" .null := D279 (Or.inr (wd hw (k := 23) rfl)) (ty := .array .byte) (by decide)
  have Fc : Fld Z h279 x279 "java/lang/String" "coder" "B" (.int 0) := D279 (Or.inr (wd hw (k := 25) rfl)) (ty := .byte) (by decide)
  refine W.g_dup (pc1 := 280) P279.q d6_279 rfl rfl ?_
  refine W.g_aload (pc1 := 282) P279.q d6_280 rfl rfl rfl ?_
  have hp : ∀ c ∈ (own_E3 ca cb ct), ¬ c < 0 ∧ ¬ (255 : Int32) < c := own_Eb3 ca cb ct ba bb bt
  refine P279.callN (pc1 := 285) rfl (wd hw (k := 35) rfl) (wd hw (k := 36) rfl) (wd hw (k := 37) rfl) (by decide) (StrChars.Road.backV (W := 1) P279.hz hws (kI := 4) (wd hw (k := 10) rfl) (cs := (own_E3 ca cb ct)) (bs := ((own_E3 ca cb ct)).map (fun c => c.toInt8.toInt32)) (n := 61) (n0 := h0.size) (by rw [g279]; exact P278.sz) P279.sz A279 Fv Fc (VL.ext E279) (US.2.1.ext (P279.extZ EZ all0)) US.1 rfl rfl (by decide) (by decide) hp rfl (by decide) (by decide)) (argsL := [(.ref x273)]) (st0 := [(.ref x279)]) (lenOf pd_AC_R_V rfl) rfl rfl (Nat.le_of_eq rfl) (by rw [hml]; rfl) (by decide) (by decide) (fun _ _ _ q => ⟨W.Frw.of_fr q.2.1 (Nat.le_refl _), CHr.keep q.2.2.1 (sfS W.safe0 sf0) P279.chv⟩) d6_282 rfl ?_
  intro v280 T280 h280 L280 q280 P280
  obtain ⟨rfl, f280, K280, A280, C280, t280, k280, b280, c280, d280, F280, V280⟩ := q280
  show W.Go p.tables e below _ (T280.setTop (mkF m 285 #[.val (.int (3 : Int32)), .val (.int ca), .val (.int cb), .val (.int ct), .val (.int (62 : Int32)), .val (.ref x273)] [(.ref x279)]))
  have SR : W.Str Z h280 x279 (own_E3 ca cb ct) := ⟨t280, k280, _, _, _, A280, F280, C280, V280, StrChars.Road.codOf (cs := (own_E3 ca cb ct)) (n := 61) rfl (fun c hc => (hp c hc).2), fun c hc => ⟨(hp c hc).1, own_up (hp c hc).2⟩, Nat.le_of_ble_eq_true rfl⟩
  exact P280.retAN hlk hret rfl rfl rfl d6_285 (by decide) (by decide) ⟨x279, rfl, P280.fr, P280.ext0, SR⟩
set_option maxRecDepth 65536 in
set_option maxHeartbeats 40000000 in
theorem c_exp4 (l : Launch) (Z : State) (a0 : Array Value) (hw : ∀ d ∈ tables_1, d.before a0 Z = true) (ca cb ct : Int32) (ba : By ca) (bb : By cb) (bt : By ct) (h0 : Heap) (EZ : Ext Z.heap h0) (zc : Int32) (fm : Value) (US : UST Z zc fm) : W.MetN l Z (⟨x.cls, "expected", "(ICCC)Ljava/lang/String;"⟩ : MethodName) method_4_code 6 ((Option.some (Jvm.ClassFile.FieldType.object "java/lang/String"))) [] ({ frames := 5, cells := 3, slots := 140, locals := 100 } : Room) #[.int 4, .int ca, .int cb, .int ct]  h0 (QS Z (own_E4 ca cb ct) h0) := by
  refine W.MetN.mk (ls0 := #[.val (.int (4 : Int32)), .val (.int ca), .val (.int cb), .val (.int ct), .unset, .unset]) [] (plainFor_of_name pn_law) (fun m => by first | (simp [entryFrame, mkF, argsToLocals, Value.category]; done) | rfl) ?_
  intro p e s m below meth c s₁ hml hret hnm hlk P0
  show W.Go p.tables e below _ (s₁.setTop (mkF m 0 #[.val (.int (4 : Int32)), .val (.int ca), .val (.int cb), .val (.int ct), .unset, .unset] []))
  have hws : ∀ d ∈ StrChars.Road.words, d.before a0 Z = true := fun d hd => hw d (own_words d hd)
  refine W.g_iloadN (pc1 := 1) P0.q d6_0 rfl rfl ?_
  refine W.g_ifY (pc1 := 29) P0.q d6_1 (by decide) rfl (by decide) ?_
  refine W.g_iloadN (pc1 := 30) P0.q d6_29 rfl rfl ?_
  refine W.g_iconst (pc1 := 31) (v := (1 : Int32)) P0.q d6_30 (by decide) rfl ?_
  refine W.g_cmpY (pc1 := 96) P0.q d6_31 (by decide) rfl (by decide) ?_
  refine W.g_iloadN (pc1 := 97) P0.q d6_96 rfl rfl ?_
  refine W.g_iconst (pc1 := 98) (v := (2 : Int32)) P0.q d6_97 (by decide) rfl ?_
  refine W.g_cmpN (pc2 := 101) P0.q d6_98 rfl (by decide) ?_
  refine W.g_iloadN (pc1 := 102) P0.q d6_101 rfl rfl ?_
  refine W.g_iconst (pc1 := 103) (v := (3 : Int32)) P0.q d6_102 (by decide) rfl ?_
  refine W.g_cmpY (pc1 := 111) P0.q d6_103 (by decide) rfl (by decide) ?_
  refine W.g_bipush (pc1 := 113) (v := (60 : Int32)) P0.q d6_111 (by decide) rfl ?_
  refine W.g_istore (pc1 := 115) (ls2 := #[.val (.int (4 : Int32)), .val (.int ca), .val (.int cb), .val (.int ct), .val (.int (60 : Int32)), .unset]) P0.q d6_113 rfl rfl ?_
  refine W.g_iloadN (pc1 := 116) P0.q d6_115 rfl rfl ?_
  refine W.g_iconst (pc1 := 117) (v := (2 : Int32)) P0.q d6_116 (by decide) rfl ?_
  refine W.g_cmpN (pc2 := 120) P0.q d6_117 rfl (by decide) ?_
  refine W.g_iloadN (pc1 := 121) P0.q d6_120 rfl rfl ?_
  refine W.g_iconst (pc1 := 122) (v := (4 : Int32)) P0.q d6_121 (by decide) rfl ?_
  refine W.g_cmpN (pc2 := 125) P0.q d6_122 rfl (by decide) ?_
  refine W.g_bipush (pc1 := 127) (v := (68 : Int32)) P0.q d6_125 (by decide) rfl ?_
  refine P0.newP (pc1 := 129) (cap := 68) (wd hw (k := 30) rfl) (by decide) (by decide) (by decide) (by decide) (by decide) d6_127 rfl ?_
  intro T281 h281 x281 k281 g281 P281 E281 V281
  have G_281 : W.Arg Z h281 x281 k281 .char 68 (fun _ => 0) := W.Arg.new (by decide) V281
  refine W.g_astore (pc1 := 131) (ls2 := #[.val (.int (4 : Int32)), .val (.int ca), .val (.int cb), .val (.int ct), .val (.int (60 : Int32)), .val (.ref x281)]) P281.q d6_129 rfl rfl rfl ?_
  refine W.g_aload (pc1 := 133) P281.q d6_131 rfl rfl rfl ?_
  refine W.g_iloadN (pc1 := 134) P281.q d6_133 rfl rfl ?_
  refine W.g_iloadN (pc1 := 135) P281.q d6_134 rfl rfl ?_
  refine W.g_iload (pc1 := 137) P281.q d6_135 rfl rfl ?_
  refine P281.callS (pc1 := 140) (wd hw (k := 51) rfl) (wd hw (k := 52) rfl) (wd hw (k := 28) rfl) (wd hw (k := 53) rfl) (by decide) (W.MetN.pay (W := 0) (c_head l Z a0 hw ca cb 60 ba bb (own_b 60) x281 k281 68 _ h281 G_281 (by decide)) P281 (wd hw (k := 53) rfl) (wd hw (k := 28) rfl) (by decide) (by decide)) (argsL := [(.ref x281), (.int ca), (.int cb), (.int (60 : Int32))]) (st0 := []) (lenOf pd_ACCCC_R_V rfl) rfl rfl (Nat.le_of_eq rfl) (by rw [hml]; rfl) (by decide) (by decide) (fun _ _ _ q => ⟨q.2.1.up P281.sz (allS (Or.inr (Nat.le_of_eq g281.symm)) all0), CHr.keep q.2.2.1 (sfS W.safe0 sf0) P281.chv⟩) d6_137 rfl ?_
  intro v282 T282 h282 L282 q282 P282
  obtain ⟨rfl, f282, K282, G_282⟩ := q282
  show W.Go p.tables e below _ (T282.setTop (mkF m 140 #[.val (.int (4 : Int32)), .val (.int ca), .val (.int cb), .val (.int ct), .val (.int (60 : Int32)), .val (.ref x281)] []))
  refine W.g_aload (pc1 := 142) P282.q d6_140 rfl rfl rfl ?_
  refine W.g_bipush (pc1 := 144) (v := (6 : Int32)) P282.q d6_142 (by decide) rfl ?_
  refine W.g_bipush (pc1 := 146) (v := (97 : Int32)) P282.q d6_144 (by decide) rfl ?_
  show W.Go p.tables e below _ (T282.setTop (mkF m 146 #[.val (.int (4 : Int32)), .val (.int ca), .val (.int cb), .val (.int ct), .val (.int (60 : Int32)), .val (.ref x281)] [(.int (97 : Int32)), (.int (Int32.ofNat 6)), (.ref x281)]))
  refine P282.stCg (pc1 := 147) (x := (97 : Int32)) G_282 (i := 6) (by decide) (Or.inr (Nat.le_of_eq g281.symm)) W.safe0 d6_146 rfl ?_
  intro T283 h283 P283 W283 G_283
  rw [own_narc ((own_b 97)).ch] at G_283
  refine W.g_aload (pc1 := 149) P283.q d6_147 rfl rfl rfl ?_
  refine W.g_bipush (pc1 := 151) (v := (7 : Int32)) P283.q d6_149 (by decide) rfl ?_
  refine W.g_bipush (pc1 := 153) (v := (110 : Int32)) P283.q d6_151 (by decide) rfl ?_
  show W.Go p.tables e below _ (T283.setTop (mkF m 153 #[.val (.int (4 : Int32)), .val (.int ca), .val (.int cb), .val (.int ct), .val (.int (60 : Int32)), .val (.ref x281)] [(.int (110 : Int32)), (.int (Int32.ofNat 7)), (.ref x281)]))
  refine P283.stCg (pc1 := 154) (x := (110 : Int32)) G_283 (i := 7) (by decide) (Or.inr (Nat.le_of_eq g281.symm)) W.safe0 d6_153 rfl ?_
  intro T284 h284 P284 W284 G_284
  rw [own_narc ((own_b 110)).ch] at G_284
  refine W.g_aload (pc1 := 156) P284.q d6_154 rfl rfl rfl ?_
  refine W.g_bipush (pc1 := 158) (v := (8 : Int32)) P284.q d6_156 (by decide) rfl ?_
  refine W.g_bipush (pc1 := 160) (v := (100 : Int32)) P284.q d6_158 (by decide) rfl ?_
  show W.Go p.tables e below _ (T284.setTop (mkF m 160 #[.val (.int (4 : Int32)), .val (.int ca), .val (.int cb), .val (.int ct), .val (.int (60 : Int32)), .val (.ref x281)] [(.int (100 : Int32)), (.int (Int32.ofNat 8)), (.ref x281)]))
  refine P284.stCg (pc1 := 161) (x := (100 : Int32)) G_284 (i := 8) (by decide) (Or.inr (Nat.le_of_eq g281.symm)) W.safe0 d6_160 rfl ?_
  intro T285 h285 P285 W285 G_285
  rw [own_narc ((own_b 100)).ch] at G_285
  refine W.g_aload (pc1 := 163) P285.q d6_161 rfl rfl rfl ?_
  refine W.g_bipush (pc1 := 165) (v := (9 : Int32)) P285.q d6_163 (by decide) rfl ?_
  refine W.g_bipush (pc1 := 167) (v := (32 : Int32)) P285.q d6_165 (by decide) rfl ?_
  show W.Go p.tables e below _ (T285.setTop (mkF m 167 #[.val (.int (4 : Int32)), .val (.int ca), .val (.int cb), .val (.int ct), .val (.int (60 : Int32)), .val (.ref x281)] [(.int (32 : Int32)), (.int (Int32.ofNat 9)), (.ref x281)]))
  refine P285.stCg (pc1 := 168) (x := (32 : Int32)) G_285 (i := 9) (by decide) (Or.inr (Nat.le_of_eq g281.symm)) W.safe0 d6_167 rfl ?_
  intro T286 h286 P286 W286 G_286
  rw [own_narc ((own_b 32)).ch] at G_286
  refine W.g_aload (pc1 := 170) P286.q d6_168 rfl rfl rfl ?_
  refine W.g_bipush (pc1 := 172) (v := (10 : Int32)) P286.q d6_170 (by decide) rfl ?_
  refine W.g_bipush (pc1 := 174) (v := (110 : Int32)) P286.q d6_172 (by decide) rfl ?_
  show W.Go p.tables e below _ (T286.setTop (mkF m 174 #[.val (.int (4 : Int32)), .val (.int ca), .val (.int cb), .val (.int ct), .val (.int (60 : Int32)), .val (.ref x281)] [(.int (110 : Int32)), (.int (Int32.ofNat 10)), (.ref x281)]))
  refine P286.stCg (pc1 := 175) (x := (110 : Int32)) G_286 (i := 10) (by decide) (Or.inr (Nat.le_of_eq g281.symm)) W.safe0 d6_174 rfl ?_
  intro T287 h287 P287 W287 G_287
  rw [own_narc ((own_b 110)).ch] at G_287
  refine W.g_aload (pc1 := 177) P287.q d6_175 rfl rfl rfl ?_
  refine W.g_bipush (pc1 := 179) (v := (11 : Int32)) P287.q d6_177 (by decide) rfl ?_
  refine W.g_bipush (pc1 := 181) (v := (111 : Int32)) P287.q d6_179 (by decide) rfl ?_
  show W.Go p.tables e below _ (T287.setTop (mkF m 181 #[.val (.int (4 : Int32)), .val (.int ca), .val (.int cb), .val (.int ct), .val (.int (60 : Int32)), .val (.ref x281)] [(.int (111 : Int32)), (.int (Int32.ofNat 11)), (.ref x281)]))
  refine P287.stCg (pc1 := 182) (x := (111 : Int32)) G_287 (i := 11) (by decide) (Or.inr (Nat.le_of_eq g281.symm)) W.safe0 d6_181 rfl ?_
  intro T288 h288 P288 W288 G_288
  rw [own_narc ((own_b 111)).ch] at G_288
  refine W.g_aload (pc1 := 184) P288.q d6_182 rfl rfl rfl ?_
  refine W.g_bipush (pc1 := 186) (v := (12 : Int32)) P288.q d6_184 (by decide) rfl ?_
  refine W.g_bipush (pc1 := 188) (v := (116 : Int32)) P288.q d6_186 (by decide) rfl ?_
  show W.Go p.tables e below _ (T288.setTop (mkF m 188 #[.val (.int (4 : Int32)), .val (.int ca), .val (.int cb), .val (.int ct), .val (.int (60 : Int32)), .val (.ref x281)] [(.int (116 : Int32)), (.int (Int32.ofNat 12)), (.ref x281)]))
  refine P288.stCg (pc1 := 189) (x := (116 : Int32)) G_288 (i := 12) (by decide) (Or.inr (Nat.le_of_eq g281.symm)) W.safe0 d6_188 rfl ?_
  intro T289 h289 P289 W289 G_289
  rw [own_narc ((own_b 116)).ch] at G_289
  refine W.g_aload (pc1 := 191) P289.q d6_189 rfl rfl rfl ?_
  refine W.g_bipush (pc1 := 193) (v := (13 : Int32)) P289.q d6_191 (by decide) rfl ?_
  refine W.g_bipush (pc1 := 195) (v := (32 : Int32)) P289.q d6_193 (by decide) rfl ?_
  show W.Go p.tables e below _ (T289.setTop (mkF m 195 #[.val (.int (4 : Int32)), .val (.int ca), .val (.int cb), .val (.int ct), .val (.int (60 : Int32)), .val (.ref x281)] [(.int (32 : Int32)), (.int (Int32.ofNat 13)), (.ref x281)]))
  refine P289.stCg (pc1 := 196) (x := (32 : Int32)) G_289 (i := 13) (by decide) (Or.inr (Nat.le_of_eq g281.symm)) W.safe0 d6_195 rfl ?_
  intro T290 h290 P290 W290 G_290
  rw [own_narc ((own_b 32)).ch] at G_290
  refine W.g_aload (pc1 := 198) P290.q d6_196 rfl rfl rfl ?_
  refine W.g_bipush (pc1 := 200) (v := (14 : Int32)) P290.q d6_198 (by decide) rfl ?_
  refine W.g_bipush (pc1 := 202) (v := (40 : Int32)) P290.q d6_200 (by decide) rfl ?_
  show W.Go p.tables e below _ (T290.setTop (mkF m 202 #[.val (.int (4 : Int32)), .val (.int ca), .val (.int cb), .val (.int ct), .val (.int (60 : Int32)), .val (.ref x281)] [(.int (40 : Int32)), (.int (Int32.ofNat 14)), (.ref x281)]))
  refine P290.stCg (pc1 := 203) (x := (40 : Int32)) G_290 (i := 14) (by decide) (Or.inr (Nat.le_of_eq g281.symm)) W.safe0 d6_202 rfl ?_
  intro T291 h291 P291 W291 G_291
  rw [own_narc ((own_b 40)).ch] at G_291
  refine W.g_aload (pc1 := 205) P291.q d6_203 rfl rfl rfl ?_
  refine W.g_bipush (pc1 := 207) (v := (15 : Int32)) P291.q d6_205 (by decide) rfl ?_
  refine W.g_iloadN (pc1 := 208) P291.q d6_207 rfl rfl ?_
  refine W.g_iloadN (pc1 := 209) P291.q d6_208 rfl rfl ?_
  refine W.g_iloadN (pc1 := 210) P291.q d6_209 rfl rfl ?_
  show W.Go p.tables e below _ (T291.setTop (mkF m 210 #[.val (.int (4 : Int32)), .val (.int ca), .val (.int cb), .val (.int ct), .val (.int (60 : Int32)), .val (.ref x281)] [(.int ct), (.int cb), (.int ca), (.int (Int32.ofNat 15)), (.ref x281)]))
  refine P291.callS (pc1 := 213) (wd hw (k := 31) rfl) (wd hw (k := 32) rfl) (wd hw (k := 28) rfl) (wd hw (k := 33) rfl) (by decide) (W.MetN.pay (W := 0) (c_core l Z a0 hw ca cb ct ba bb bt x281 k281 68 15 _ h291 G_291 (by decide)) P291 (wd hw (k := 33) rfl) (wd hw (k := 28) rfl) (by decide) (by decide)) (argsL := [(.ref x281), (.int (Int32.ofNat 15)), (.int ca), (.int cb), (.int ct)]) (st0 := []) (lenOf pd_ACICCC_R_V rfl) rfl rfl (Nat.le_of_eq rfl) (by rw [hml]; rfl) (by decide) (by decide) (fun _ _ _ q => ⟨q.2.1.up P291.sz (allS (Or.inr (Nat.le_of_eq g281.symm)) all0), CHr.keep q.2.2.1 (sfS W.safe0 sf0) P291.chv⟩) d6_210 rfl ?_
  intro v292 T292 h292 L292 q292 P292
  obtain ⟨rfl, f292, K292, G_292⟩ := q292
  show W.Go p.tables e below _ (T292.setTop (mkF m 213 #[.val (.int (4 : Int32)), .val (.int ca), .val (.int cb), .val (.int ct), .val (.int (60 : Int32)), .val (.ref x281)] []))
  refine W.g_aload (pc1 := 215) P292.q d6_213 rfl rfl rfl ?_
  refine W.g_bipush (pc1 := 217) (v := (67 : Int32)) P292.q d6_215 (by decide) rfl ?_
  refine W.g_bipush (pc1 := 219) (v := (41 : Int32)) P292.q d6_217 (by decide) rfl ?_
  show W.Go p.tables e below _ (T292.setTop (mkF m 219 #[.val (.int (4 : Int32)), .val (.int ca), .val (.int cb), .val (.int ct), .val (.int (60 : Int32)), .val (.ref x281)] [(.int (41 : Int32)), (.int (Int32.ofNat 67)), (.ref x281)]))
  refine P292.stCg (pc1 := 220) (x := (41 : Int32)) G_292 (i := 67) (by decide) (Or.inr (Nat.le_of_eq g281.symm)) W.safe0 d6_219 rfl ?_
  intro T293 h293 P293 W293 G_293
  rw [own_narc ((own_b 41)).ch] at G_293
  have VL : Arv Z h293 x281 k281 .char 68 ((own_E4 ca cb ct).map Value.int) (.int 0) := W.Arg.list G_293 rfl (fun i hi => match i, hi with | 0, _ => rfl | 1, _ => rfl | 2, _ => rfl | 3, _ => rfl | 4, _ => rfl | 5, _ => rfl | 6, _ => rfl | 7, _ => rfl | 8, _ => rfl | 9, _ => rfl | 10, _ => rfl | 11, _ => rfl | 12, _ => rfl | 13, _ => rfl | 14, _ => rfl | 15, _ => rfl | 16, _ => rfl | 17, _ => rfl | 18, _ => rfl | 19, _ => rfl | 20, _ => rfl | 21, _ => rfl | 22, _ => rfl | 23, _ => rfl | 24, _ => rfl | 25, _ => rfl | 26, _ => rfl | 27, _ => rfl | 28, _ => rfl | 29, _ => rfl | 30, _ => rfl | 31, _ => rfl | 32, _ => rfl | 33, _ => rfl | 34, _ => rfl | 35, _ => rfl | 36, _ => rfl | 37, _ => rfl | 38, _ => rfl | 39, _ => rfl | 40, _ => rfl | 41, _ => rfl | 42, _ => rfl | 43, _ => rfl | 44, _ => rfl | 45, _ => rfl | 46, _ => rfl | 47, _ => rfl | 48, _ => rfl | 49, _ => rfl | 50, _ => rfl | 51, _ => rfl | 52, _ => rfl | 53, _ => rfl | 54, _ => rfl | 55, _ => rfl | 56, _ => rfl | 57, _ => rfl | 58, _ => rfl | 59, _ => rfl | 60, _ => rfl | 61, _ => rfl | 62, _ => rfl | 63, _ => rfl | 64, _ => rfl | 65, _ => rfl | 66, _ => rfl | 67, _ => rfl | k + 68, hk => absurd hk (Nat.not_lt.mpr (Nat.le_add_left _ _)))
  refine P293.newO (pc1 := 223) (wd hw (k := 34) rfl) (wd hw (k := 10) rfl) (wd hw (k := 2) rfl) (by decide) (by decide) d6_220 rfl ?_
  intro T294 h294 x294 g294 P294 E294 A294 D294 U294
  have Fv : Fld Z h294 x294 "java/lang/String" "value" "[B" .null := D294 (Or.inr (wd hw (k := 23) rfl)) (ty := .array .byte) (by decide)
  have Fc : Fld Z h294 x294 "java/lang/String" "coder" "B" (.int 0) := D294 (Or.inr (wd hw (k := 25) rfl)) (ty := .byte) (by decide)
  refine W.g_dup (pc1 := 224) P294.q d6_223 rfl rfl ?_
  refine W.g_aload (pc1 := 226) P294.q d6_224 rfl rfl rfl ?_
  have hp : ∀ c ∈ (own_E4 ca cb ct), ¬ c < 0 ∧ ¬ (255 : Int32) < c := own_Eb4 ca cb ct ba bb bt
  refine P294.callN (pc1 := 229) rfl (wd hw (k := 35) rfl) (wd hw (k := 36) rfl) (wd hw (k := 37) rfl) (by decide) (StrChars.Road.backV (W := 1) P294.hz hws (kI := 4) (wd hw (k := 10) rfl) (cs := (own_E4 ca cb ct)) (bs := ((own_E4 ca cb ct)).map (fun c => c.toInt8.toInt32)) (n := 68) (n0 := h0.size) (by rw [g294]; exact P293.sz) P294.sz A294 Fv Fc (VL.ext E294) (US.2.1.ext (P294.extZ EZ all0)) US.1 rfl rfl (by decide) (by decide) hp rfl (by decide) (by decide)) (argsL := [(.ref x281)]) (st0 := [(.ref x294)]) (lenOf pd_AC_R_V rfl) rfl rfl (Nat.le_of_eq rfl) (by rw [hml]; rfl) (by decide) (by decide) (fun _ _ _ q => ⟨W.Frw.of_fr q.2.1 (Nat.le_refl _), CHr.keep q.2.2.1 (sfS W.safe0 sf0) P294.chv⟩) d6_226 rfl ?_
  intro v295 T295 h295 L295 q295 P295
  obtain ⟨rfl, f295, K295, A295, C295, t295, k295, b295, c295, d295, F295, V295⟩ := q295
  show W.Go p.tables e below _ (T295.setTop (mkF m 229 #[.val (.int (4 : Int32)), .val (.int ca), .val (.int cb), .val (.int ct), .val (.int (60 : Int32)), .val (.ref x281)] [(.ref x294)]))
  have SR : W.Str Z h295 x294 (own_E4 ca cb ct) := ⟨t295, k295, _, _, _, A295, F295, C295, V295, StrChars.Road.codOf (cs := (own_E4 ca cb ct)) (n := 68) rfl (fun c hc => (hp c hc).2), fun c hc => ⟨(hp c hc).1, own_up (hp c hc).2⟩, Nat.le_of_ble_eq_true rfl⟩
  exact P295.retAN hlk hret rfl rfl rfl d6_229 (by decide) (by decide) ⟨x294, rfl, P295.fr, P295.ext0, SR⟩
set_option maxRecDepth 65536 in
set_option maxHeartbeats 40000000 in
theorem c_exp5 (l : Launch) (Z : State) (a0 : Array Value) (hw : ∀ d ∈ tables_1, d.before a0 Z = true) (ca cb ct : Int32) (ba : By ca) (bb : By cb) (bt : By ct) (h0 : Heap) (EZ : Ext Z.heap h0) (zc : Int32) (fm : Value) (US : UST Z zc fm) : W.MetN l Z (⟨x.cls, "expected", "(ICCC)Ljava/lang/String;"⟩ : MethodName) method_4_code 6 ((Option.some (Jvm.ClassFile.FieldType.object "java/lang/String"))) [] ({ frames := 5, cells := 3, slots := 140, locals := 100 } : Room) #[.int 5, .int ca, .int cb, .int ct]  h0 (QS Z (own_E5 ca cb ct) h0) := by
  refine W.MetN.mk (ls0 := #[.val (.int (5 : Int32)), .val (.int ca), .val (.int cb), .val (.int ct), .unset, .unset]) [] (plainFor_of_name pn_law) (fun m => by first | (simp [entryFrame, mkF, argsToLocals, Value.category]; done) | rfl) ?_
  intro p e s m below meth c s₁ hml hret hnm hlk P0
  show W.Go p.tables e below _ (s₁.setTop (mkF m 0 #[.val (.int (5 : Int32)), .val (.int ca), .val (.int cb), .val (.int ct), .unset, .unset] []))
  have hws : ∀ d ∈ StrChars.Road.words, d.before a0 Z = true := fun d hd => hw d (own_words d hd)
  refine W.g_iloadN (pc1 := 1) P0.q d6_0 rfl rfl ?_
  refine W.g_ifY (pc1 := 29) P0.q d6_1 (by decide) rfl (by decide) ?_
  refine W.g_iloadN (pc1 := 30) P0.q d6_29 rfl rfl ?_
  refine W.g_iconst (pc1 := 31) (v := (1 : Int32)) P0.q d6_30 (by decide) rfl ?_
  refine W.g_cmpY (pc1 := 96) P0.q d6_31 (by decide) rfl (by decide) ?_
  refine W.g_iloadN (pc1 := 97) P0.q d6_96 rfl rfl ?_
  refine W.g_iconst (pc1 := 98) (v := (2 : Int32)) P0.q d6_97 (by decide) rfl ?_
  refine W.g_cmpN (pc2 := 101) P0.q d6_98 rfl (by decide) ?_
  refine W.g_iloadN (pc1 := 102) P0.q d6_101 rfl rfl ?_
  refine W.g_iconst (pc1 := 103) (v := (3 : Int32)) P0.q d6_102 (by decide) rfl ?_
  refine W.g_cmpY (pc1 := 111) P0.q d6_103 (by decide) rfl (by decide) ?_
  refine W.g_bipush (pc1 := 113) (v := (60 : Int32)) P0.q d6_111 (by decide) rfl ?_
  refine W.g_istore (pc1 := 115) (ls2 := #[.val (.int (5 : Int32)), .val (.int ca), .val (.int cb), .val (.int ct), .val (.int (60 : Int32)), .unset]) P0.q d6_113 rfl rfl ?_
  refine W.g_iloadN (pc1 := 116) P0.q d6_115 rfl rfl ?_
  refine W.g_iconst (pc1 := 117) (v := (2 : Int32)) P0.q d6_116 (by decide) rfl ?_
  refine W.g_cmpN (pc2 := 120) P0.q d6_117 rfl (by decide) ?_
  refine W.g_iloadN (pc1 := 121) P0.q d6_120 rfl rfl ?_
  refine W.g_iconst (pc1 := 122) (v := (4 : Int32)) P0.q d6_121 (by decide) rfl ?_
  refine W.g_cmpY (pc1 := 230) P0.q d6_122 (by decide) rfl (by decide) ?_
  refine W.g_bipush (pc1 := 232) (v := (61 : Int32)) P0.q d6_230 (by decide) rfl ?_
  refine P0.newP (pc1 := 234) (cap := 61) (wd hw (k := 30) rfl) (by decide) (by decide) (by decide) (by decide) (by decide) d6_232 rfl ?_
  intro T296 h296 x296 k296 g296 P296 E296 V296
  have G_296 : W.Arg Z h296 x296 k296 .char 61 (fun _ => 0) := W.Arg.new (by decide) V296
  refine W.g_astore (pc1 := 236) (ls2 := #[.val (.int (5 : Int32)), .val (.int ca), .val (.int cb), .val (.int ct), .val (.int (60 : Int32)), .val (.ref x296)]) P296.q d6_234 rfl rfl rfl ?_
  refine W.g_aload (pc1 := 238) P296.q d6_236 rfl rfl rfl ?_
  refine W.g_iloadN (pc1 := 239) P296.q d6_238 rfl rfl ?_
  refine W.g_iloadN (pc1 := 240) P296.q d6_239 rfl rfl ?_
  refine W.g_iload (pc1 := 242) P296.q d6_240 rfl rfl ?_
  refine P296.callS (pc1 := 245) (wd hw (k := 51) rfl) (wd hw (k := 52) rfl) (wd hw (k := 28) rfl) (wd hw (k := 53) rfl) (by decide) (W.MetN.pay (W := 0) (c_head l Z a0 hw ca cb 60 ba bb (own_b 60) x296 k296 61 _ h296 G_296 (by decide)) P296 (wd hw (k := 53) rfl) (wd hw (k := 28) rfl) (by decide) (by decide)) (argsL := [(.ref x296), (.int ca), (.int cb), (.int (60 : Int32))]) (st0 := []) (lenOf pd_ACCCC_R_V rfl) rfl rfl (Nat.le_of_eq rfl) (by rw [hml]; rfl) (by decide) (by decide) (fun _ _ _ q => ⟨q.2.1.up P296.sz (allS (Or.inr (Nat.le_of_eq g296.symm)) all0), CHr.keep q.2.2.1 (sfS W.safe0 sf0) P296.chv⟩) d6_242 rfl ?_
  intro v297 T297 h297 L297 q297 P297
  obtain ⟨rfl, f297, K297, G_297⟩ := q297
  show W.Go p.tables e below _ (T297.setTop (mkF m 245 #[.val (.int (5 : Int32)), .val (.int ca), .val (.int cb), .val (.int ct), .val (.int (60 : Int32)), .val (.ref x296)] []))
  refine W.g_aload (pc1 := 247) P297.q d6_245 rfl rfl rfl ?_
  refine W.g_bipush (pc1 := 249) (v := (6 : Int32)) P297.q d6_247 (by decide) rfl ?_
  refine W.g_bipush (pc1 := 251) (v := (111 : Int32)) P297.q d6_249 (by decide) rfl ?_
  show W.Go p.tables e below _ (T297.setTop (mkF m 251 #[.val (.int (5 : Int32)), .val (.int ca), .val (.int cb), .val (.int ct), .val (.int (60 : Int32)), .val (.ref x296)] [(.int (111 : Int32)), (.int (Int32.ofNat 6)), (.ref x296)]))
  refine P297.stCg (pc1 := 252) (x := (111 : Int32)) G_297 (i := 6) (by decide) (Or.inr (Nat.le_of_eq g296.symm)) W.safe0 d6_251 rfl ?_
  intro T298 h298 P298 W298 G_298
  rw [own_narc ((own_b 111)).ch] at G_298
  refine W.g_aload (pc1 := 254) P298.q d6_252 rfl rfl rfl ?_
  refine W.g_bipush (pc1 := 256) (v := (7 : Int32)) P298.q d6_254 (by decide) rfl ?_
  refine W.g_bipush (pc1 := 258) (v := (114 : Int32)) P298.q d6_256 (by decide) rfl ?_
  show W.Go p.tables e below _ (T298.setTop (mkF m 258 #[.val (.int (5 : Int32)), .val (.int ca), .val (.int cb), .val (.int ct), .val (.int (60 : Int32)), .val (.ref x296)] [(.int (114 : Int32)), (.int (Int32.ofNat 7)), (.ref x296)]))
  refine P298.stCg (pc1 := 259) (x := (114 : Int32)) G_298 (i := 7) (by decide) (Or.inr (Nat.le_of_eq g296.symm)) W.safe0 d6_258 rfl ?_
  intro T299 h299 P299 W299 G_299
  rw [own_narc ((own_b 114)).ch] at G_299
  refine W.g_aload (pc1 := 261) P299.q d6_259 rfl rfl rfl ?_
  refine W.g_bipush (pc1 := 263) (v := (8 : Int32)) P299.q d6_261 (by decide) rfl ?_
  refine W.g_bipush (pc1 := 265) (v := (32 : Int32)) P299.q d6_263 (by decide) rfl ?_
  show W.Go p.tables e below _ (T299.setTop (mkF m 265 #[.val (.int (5 : Int32)), .val (.int ca), .val (.int cb), .val (.int ct), .val (.int (60 : Int32)), .val (.ref x296)] [(.int (32 : Int32)), (.int (Int32.ofNat 8)), (.ref x296)]))
  refine P299.stCg (pc1 := 266) (x := (32 : Int32)) G_299 (i := 8) (by decide) (Or.inr (Nat.le_of_eq g296.symm)) W.safe0 d6_265 rfl ?_
  intro T300 h300 P300 W300 G_300
  rw [own_narc ((own_b 32)).ch] at G_300
  refine W.g_aload (pc1 := 268) P300.q d6_266 rfl rfl rfl ?_
  refine W.g_bipush (pc1 := 270) (v := (9 : Int32)) P300.q d6_268 (by decide) rfl ?_
  refine W.g_iloadN (pc1 := 271) P300.q d6_270 rfl rfl ?_
  refine W.g_iloadN (pc1 := 272) P300.q d6_271 rfl rfl ?_
  refine W.g_iloadN (pc1 := 273) P300.q d6_272 rfl rfl ?_
  show W.Go p.tables e below _ (T300.setTop (mkF m 273 #[.val (.int (5 : Int32)), .val (.int ca), .val (.int cb), .val (.int ct), .val (.int (60 : Int32)), .val (.ref x296)] [(.int ct), (.int cb), (.int ca), (.int (Int32.ofNat 9)), (.ref x296)]))
  refine P300.callS (pc1 := 276) (wd hw (k := 31) rfl) (wd hw (k := 32) rfl) (wd hw (k := 28) rfl) (wd hw (k := 33) rfl) (by decide) (W.MetN.pay (W := 0) (c_core l Z a0 hw ca cb ct ba bb bt x296 k296 61 9 _ h300 G_300 (by decide)) P300 (wd hw (k := 33) rfl) (wd hw (k := 28) rfl) (by decide) (by decide)) (argsL := [(.ref x296), (.int (Int32.ofNat 9)), (.int ca), (.int cb), (.int ct)]) (st0 := []) (lenOf pd_ACICCC_R_V rfl) rfl rfl (Nat.le_of_eq rfl) (by rw [hml]; rfl) (by decide) (by decide) (fun _ _ _ q => ⟨q.2.1.up P300.sz (allS (Or.inr (Nat.le_of_eq g296.symm)) all0), CHr.keep q.2.2.1 (sfS W.safe0 sf0) P300.chv⟩) d6_273 rfl ?_
  intro v301 T301 h301 L301 q301 P301
  obtain ⟨rfl, f301, K301, G_301⟩ := q301
  show W.Go p.tables e below _ (T301.setTop (mkF m 276 #[.val (.int (5 : Int32)), .val (.int ca), .val (.int cb), .val (.int ct), .val (.int (60 : Int32)), .val (.ref x296)] []))
  have VL : Arv Z h301 x296 k296 .char 61 ((own_E5 ca cb ct).map Value.int) (.int 0) := W.Arg.list G_301 rfl (fun i hi => match i, hi with | 0, _ => rfl | 1, _ => rfl | 2, _ => rfl | 3, _ => rfl | 4, _ => rfl | 5, _ => rfl | 6, _ => rfl | 7, _ => rfl | 8, _ => rfl | 9, _ => rfl | 10, _ => rfl | 11, _ => rfl | 12, _ => rfl | 13, _ => rfl | 14, _ => rfl | 15, _ => rfl | 16, _ => rfl | 17, _ => rfl | 18, _ => rfl | 19, _ => rfl | 20, _ => rfl | 21, _ => rfl | 22, _ => rfl | 23, _ => rfl | 24, _ => rfl | 25, _ => rfl | 26, _ => rfl | 27, _ => rfl | 28, _ => rfl | 29, _ => rfl | 30, _ => rfl | 31, _ => rfl | 32, _ => rfl | 33, _ => rfl | 34, _ => rfl | 35, _ => rfl | 36, _ => rfl | 37, _ => rfl | 38, _ => rfl | 39, _ => rfl | 40, _ => rfl | 41, _ => rfl | 42, _ => rfl | 43, _ => rfl | 44, _ => rfl | 45, _ => rfl | 46, _ => rfl | 47, _ => rfl | 48, _ => rfl | 49, _ => rfl | 50, _ => rfl | 51, _ => rfl | 52, _ => rfl | 53, _ => rfl | 54, _ => rfl | 55, _ => rfl | 56, _ => rfl | 57, _ => rfl | 58, _ => rfl | 59, _ => rfl | 60, _ => rfl | k + 61, hk => absurd hk (Nat.not_lt.mpr (Nat.le_add_left _ _)))
  refine P301.newO (pc1 := 279) (wd hw (k := 34) rfl) (wd hw (k := 10) rfl) (wd hw (k := 2) rfl) (by decide) (by decide) d6_276 rfl ?_
  intro T302 h302 x302 g302 P302 E302 A302 D302 U302
  have Fv : Fld Z h302 x302 "java/lang/String" "value" "[B" .null := D302 (Or.inr (wd hw (k := 23) rfl)) (ty := .array .byte) (by decide)
  have Fc : Fld Z h302 x302 "java/lang/String" "coder" "B" (.int 0) := D302 (Or.inr (wd hw (k := 25) rfl)) (ty := .byte) (by decide)
  refine W.g_dup (pc1 := 280) P302.q d6_279 rfl rfl ?_
  refine W.g_aload (pc1 := 282) P302.q d6_280 rfl rfl rfl ?_
  have hp : ∀ c ∈ (own_E5 ca cb ct), ¬ c < 0 ∧ ¬ (255 : Int32) < c := own_Eb5 ca cb ct ba bb bt
  refine P302.callN (pc1 := 285) rfl (wd hw (k := 35) rfl) (wd hw (k := 36) rfl) (wd hw (k := 37) rfl) (by decide) (StrChars.Road.backV (W := 1) P302.hz hws (kI := 4) (wd hw (k := 10) rfl) (cs := (own_E5 ca cb ct)) (bs := ((own_E5 ca cb ct)).map (fun c => c.toInt8.toInt32)) (n := 61) (n0 := h0.size) (by rw [g302]; exact P301.sz) P302.sz A302 Fv Fc (VL.ext E302) (US.2.1.ext (P302.extZ EZ all0)) US.1 rfl rfl (by decide) (by decide) hp rfl (by decide) (by decide)) (argsL := [(.ref x296)]) (st0 := [(.ref x302)]) (lenOf pd_AC_R_V rfl) rfl rfl (Nat.le_of_eq rfl) (by rw [hml]; rfl) (by decide) (by decide) (fun _ _ _ q => ⟨W.Frw.of_fr q.2.1 (Nat.le_refl _), CHr.keep q.2.2.1 (sfS W.safe0 sf0) P302.chv⟩) d6_282 rfl ?_
  intro v303 T303 h303 L303 q303 P303
  obtain ⟨rfl, f303, K303, A303, C303, t303, k303, b303, c303, d303, F303, V303⟩ := q303
  show W.Go p.tables e below _ (T303.setTop (mkF m 285 #[.val (.int (5 : Int32)), .val (.int ca), .val (.int cb), .val (.int ct), .val (.int (60 : Int32)), .val (.ref x296)] [(.ref x302)]))
  have SR : W.Str Z h303 x302 (own_E5 ca cb ct) := ⟨t303, k303, _, _, _, A303, F303, C303, V303, StrChars.Road.codOf (cs := (own_E5 ca cb ct)) (n := 61) rfl (fun c hc => (hp c hc).2), fun c hc => ⟨(hp c hc).1, own_up (hp c hc).2⟩, Nat.le_of_ble_eq_true rfl⟩
  exact P303.retAN hlk hret rfl rfl rfl d6_285 (by decide) (by decide) ⟨x302, rfl, P303.fr, P303.ext0, SR⟩
set_option maxRecDepth 65536 in
set_option maxHeartbeats 40000000 in
theorem c_ord (l : Launch) (Z : State) (a0 : Array Value) (hw : ∀ d ∈ tables_1, d.before a0 Z = true) (x : Addr) (z : Int32) (h0 : Heap) (F0 : Fld Z h0 x "java/lang/Enum" "ordinal" "I" (.int z)) : W.MetN l Z (⟨"java/lang/Enum", "ordinal", "()I"⟩ : MethodName) jdk_37_method_2_code 1 ((Option.some Jvm.ClassFile.FieldType.int)) [] ({ frames := 0, cells := 0, slots := 0, locals := 0 } : Room) #[.ref x]  h0 (W.Pure (some (.int z)) h0) := by
  refine W.MetN.mk (ls0 := #[.val (.ref x)]) [] (plainFor_of_name pn_java_lang_Enum) (fun m => by first | (simp [entryFrame, mkF, argsToLocals, Value.category]; done) | rfl) ?_
  intro p e s m below meth c s₁ hml hret hnm hlk P0
  show W.Go p.tables e below _ (s₁.setTop (mkF m 0 #[.val (.ref x)] []))
  refine W.g_aloadN (pc1 := 1) P0.q d40_0 rfl rfl rfl ?_
  refine P0.getF (host := "") (pc1 := 4) (Or.inl (wd hw (k := 204) rfl)) Via.refl F0 d40_1 rfl ?_
  intro T304 P304
  exact P304.retIN hlk hret d40_4 (by decide) (by decide) ⟨rfl, rfl, rfl⟩
theorem own_byD {cs : List Int32} (h : ∀ c ∈ cs, By c) : ∀ i, i < cs.length → By (cs.getD i 0) := fun i hi => by
  rw [List.getD_eq_getElem?_getD, List.getElem?_eq_getElem hi]; exact h _ (List.getElem_mem hi)
theorem own_ap1 {cs ds : List Int32} {g : Nat → Int32} {cnt n : Nat} (hc : cs.length = cnt) (hn : ds.length = n) (hg : ∀ i, i < cnt → g i = StrChars.lo8 (cs.getD i 0)) : ∀ i, i < cnt + n → W.cpy (fun i => StrChars.lo8 (ds.getD i 0)) g 0 cnt n i = StrChars.lo8 ((cs ++ ds).getD i 0) := fun i hi => by
  subst hc hn
  unfold W.cpy
  by_cases c1 : i < cs.length
  · rw [if_neg (by omega), hg i c1]
    simp only [List.getD_eq_getElem?_getD]; rw [List.getElem?_append_left c1]
  · rw [if_pos (by omega)]
    simp only [List.getD_eq_getElem?_getD]; rw [List.getElem?_append_right (by omega), show 0 + (i - cs.length) = i - cs.length by omega]
theorem own_ap2 {g : Nat → Int32} {cap cnt : Nat} {cs : List Int32} (h : cnt ≤ cap) (hg : ∀ i, i < cnt → g i = StrChars.lo8 (cs.getD i 0)) : ∀ i, i < cnt → W.cpy g (fun _ => 0) 0 0 cap i = StrChars.lo8 (cs.getD i 0) := fun i hi => by
  unfold W.cpy; rw [if_pos (by omega), show 0 + (i - 0) = i by omega]; exact hg i hi
theorem Lt.keep {Z : State} {h h' : Heap} {x t : Addr} {kb : ClassId} {n : Nat} {f : Nat → Int32} {ws : List Addr} (S : Lt Z h x t kb n f) (K : Keep h h' ws) (q1 : x ∉ ws) (q2 : t ∉ ws) : Lt Z h' x t kb n f := ⟨S.1.keep K, S.2.1.keep K q1, S.2.2.1.keep K q1, S.2.2.2.1.keep K q2, S.2.2.2.2⟩
set_option maxRecDepth 65536 in
set_option maxHeartbeats 40000000 in
theorem c_hql (l : Launch) (Z : State) (a0 : Array Value) (hw : ∀ d ∈ tables_1, d.before a0 Z = true) (wS : ∀ a ∈ Bundle.stringAtoms, a.before a0 Z = true) (hEL : EW Z a0 ownEL) (e9 sa sb st : Addr) (ca cb ct : Int32) (ba : By ca) (bb : By cb) (bt : By ct) (j : Int32) (hj : j = 0 ∨ j = 1 ∨ j = 2 ∨ j = 3 ∨ j = 4 ∨ j = 5) (h0 : Heap) (Ee : Exa Z h0 e9 site_118.cls) (Oe : Fld Z h0 e9 "java/lang/Enum" "ordinal" "I" (.int j)) (Sa : W.Str Z h0 sa [ca]) (Sb_ : W.Str Z h0 sb [cb]) (St_ : W.Str Z h0 st [ct]) (EZ : Ext Z.heap h0) (zc : Int32) (fm : Value) (US : UST Z zc fm) : W.MetW l Z ownEL (⟨site_118.cls, "hql", "(Ljava/lang/String;Ljava/lang/String;Ljava/lang/String;)Ljava/lang/String;"⟩ : MethodName) prog_1_method_6_code 5 ((Option.some (Jvm.ClassFile.FieldType.object "java/lang/String"))) [] ({ frames := 8, cells := 28, slots := 1100, locals := 140 } : Room) #[.ref e9, .ref sa, .ref sb, .ref st] [] h0 (QS Z (own_E j ca cb ct) h0) := by
  refine W.MetW.mk (ls0 := #[.val (.ref e9), .val (.ref sa), .val (.ref sb), .val (.ref st), .unset]) [] (plainFor_of_name pn_cmp) (fun m => by first | (simp [entryFrame, mkF, argsToLocals, Value.category]; done) | rfl) ?_
  intro p e s m below meth c s₁ hml hret hnm hlk hss P0
  show W.Go p.tables e below _ (s₁.setTop (mkF m 0 #[.val (.ref e9), .val (.ref sa), .val (.ref sb), .val (.ref st), .unset] []))
  have by1 : ∀ {c : Int32}, By c → ∀ q ∈ [c], ¬ (255 : Int32) < q := fun h q hq => by rw [List.mem_singleton.mp hq]; exact h.2
  obtain ⟨ta, ka, La⟩ := Lt.ofStr Sa (by1 ba)
  obtain ⟨tb, kb, Lb⟩ := Lt.ofStr Sb_ (by1 bb)
  obtain ⟨tt, kt, Lc⟩ := Lt.ofStr St_ (by1 bt)
  refine P0.newO (pc1 := 3) (wd hw (k := 62) rfl) (wd hw (k := 63) rfl) (wd hw (k := 64) rfl) (by decide) (by decide) d14_0 rfl ?_
  intro T305 h305 x305 g305 P305 E305 A305 D305 U305
  refine W.g_dup (pc1 := 4) P305.q d14_3 rfl rfl ?_
  have Fvalue305 : Fld Z h305 x305 "java/lang/AbstractStringBuilder" "value" "[B" .null := D305 (Or.inl (wd hw (k := 77) rfl)) (ty := .array .byte) (by decide)
  have Fcoder305 : Fld Z h305 x305 "java/lang/AbstractStringBuilder" "coder" "B" (.int 0) := D305 (Or.inl (wd hw (k := 79) rfl)) (ty := .byte) (by decide)
  have Fcount305 : Fld Z h305 x305 "java/lang/AbstractStringBuilder" "count" "I" (.int 0) := D305 (Or.inl (wd hw (k := 104) rfl)) (ty := .int) (by decide)
  have hx305 : h0.size ≤ x305 := by rw [g305]; exact P0.sz
  have hzx305 : Z.heap.size ≤ x305 := Nat.le_trans EZ.1 hx305
  have Sx305 : Safe Z ownEL _ h305 x305 := Safe.exa P305.al A305 (by decide) (by decide)
  refine P305.callN (pc1 := 7) rfl (wd hw (k := 65) rfl) (wd hw (k := 66) rfl) (wd hw (k := 67) rfl) (by decide) (W.MetN.pay (W := 1) (c_sini l Z a0 hw x305 h305 A305 _ _ Fvalue305 Fcoder305 Fcount305 (P305.extZ EZ all0) zc fm US) P305 (wd hw (k := 67) rfl) (wd hw (k := 64) rfl) (by decide) (by decide)) (argsL := []) (st0 := [(.ref x305)]) (lenOf pd__R_V rfl) rfl rfl (Nat.le_of_eq rfl) (by rw [hml]; rfl) (by decide) (by decide) (fun _ _ _ q => ⟨q.2.1.up P305.sz (allS (Or.inr hx305) all0), CHr.keep q.2.2.1 (sfS Sx305 sf0) P305.chv⟩) d14_4 rfl ?_
  intro v306 T306 h306 L306 q306 P306
  obtain ⟨rfl, f306, K306, t306, k306, n306, B306⟩ := q306
  show W.Go p.tables e below _ (T306.setTop (mkF m 7 #[.val (.ref e9), .val (.ref sa), .val (.ref sb), .val (.ref st), .unset] [(.ref x305)]))
  have EB306 := W.Ext.keepNew E305 K306 (allS (Nat.le_of_eq g305.symm) all0)
  have Sx306 : Safe Z ownEL _ h306 x305 := Safe.keep K306 (sfS Sx305 sf0) P305.chv Sx305
  have St306 : Safe Z ownEL _ h306 t306 := Safe.keep K306 (sfS Sx305 sf0) P305.chv (Safe.new n306)
  have ht306 : h0.size ≤ t306 := Nat.le_trans P305.sz n306
  obtain ⟨g306, hg306, B306⟩ : ∃ g : Nat → Int32, (∀ i, i < 0 → g i = StrChars.lo8 (([] : List Int32).getD i 0)) ∧ Sb Z h306 x305 t306 k306 16 0 g := ⟨_, fun i hi => absurd hi (Nat.not_lt_zero i), B306⟩
  refine P306.ldcK (pc1 := 9) (n := 16) (vs := [.int 97, .int 98, .int 115, .int 40]) (z := 4) (wd hw (k := 80) rfl) wS hEL (by decide) ⟨by decide, by decide +kernel⟩ (by decide) (by decide) (by decide) (by decide) (by decide) (by decide) d14_7 rfl ?_
  intro y307 T307 h307 t307 k307 P307 E307 R307 A307 C307 F307 V307 N307 I307 M307
  have LL307 : Lt Z h307 y307 t307 k307 4 (fun i => ([97, 98, 115, 40] : List Int32).getD i 0) := ⟨A307, F307, C307, W.Arg.of 4 V307 rfl (by decide) (fun i hi => match i, hi with | 0, _ => rfl | 1, _ => rfl | 2, _ => rfl | 3, _ => rfl | k + 4, hk => absurd hk (Nat.not_lt.mpr (Nat.le_add_left _ _))), own_byD (cs := [97, 98, 115, 40]) (List.forall_mem_cons.mpr ⟨(own_b 97), (List.forall_mem_cons.mpr ⟨(own_b 98), (List.forall_mem_cons.mpr ⟨(own_b 115), (List.forall_mem_cons.mpr ⟨(own_b 40), (fun c hc => absurd hc (List.not_mem_nil))⟩)⟩)⟩)⟩)⟩
  have B307 := B306.ext E307
  have Sx307 := R307.safe B306.1.lt Sx306
  have St307 := R307.safe B306.2.2.2.2.1.lt St306
  have nx307_y307 : ¬ y307 = x305 ∧ ¬ t307 = x305 ∧ ¬ y307 = t306 ∧ ¬ t307 = t306 := ⟨Ne.symm (N307 _ Sx307).1, Ne.symm (N307 _ Sx307).2, Ne.symm (N307 _ St307).1, Ne.symm (N307 _ St307).2⟩
  refine P307.callV (pc1 := 12) B307.1 (wd hw (k := 83) rfl) (wd hw (k := 84) rfl) (wd hw (k := 86) rfl) (wd hw (k := 85) rfl) (notFace_of_selects (args := #[]) (mvT P307.hz (wd hw (k := 86) rfl))) (by decide) (W.MetN.pay (W := 0) (c_sapp l Z a0 hw x305 t306 k306 16 0 g306 y307 t307 k307 4 (fun i => ([97, 98, 115, 40] : List Int32).getD i 0) h307 B307 (LL307) (by decide) (P307.extZ EZ all0) zc fm US) P307 (wd hw (k := 87) rfl) (wd hw (k := 64) rfl) (by decide) (by decide)) (argsL := [(.ref y307)]) (st0 := []) (lenOf pd_Ljava_lang_String_R_Ljava_lang_StringBuilder rfl) rfl rfl (Nat.le_of_eq rfl) (by rw [hml]; rfl) (by decide) (by decide) (fun _ _ _ q => ⟨q.2.1.up P307.sz (allS (Or.inr hx305) (allS (Or.inr ht306) all0)), CHr.keep q.2.2.1 (sfS Sx307 (sfS St307 sf0)) P307.chv⟩) d14_9 rfl ?_
  intro v308 T308 h308 L308 q308 P308
  obtain ⟨rfl, f308, K308, B308⟩ := q308
  show W.Go p.tables e below _ (T308.setTop (mkF m 12 #[.val (.ref e9), .val (.ref sa), .val (.ref sb), .val (.ref st), .unset] [(.ref x305)]))
  have Sx308 : Safe Z ownEL _ h308 x305 := Safe.keep K308 (sfS Sx307 (sfS St307 sf0)) P307.chv Sx307
  have St308 : Safe Z ownEL _ h308 t306 := Safe.keep K308 (sfS Sx307 (sfS St307 sf0)) P307.chv St307
  have L308_y307 := LL307.keep K308 (ninS nx307_y307.1 (ninS nx307_y307.2.2.1 nin0)) (ninS nx307_y307.2.1 (ninS nx307_y307.2.2.2 nin0))
  obtain ⟨g308, hg308, B308⟩ : ∃ g : Nat → Int32, (∀ i, i < 4 → g i = StrChars.lo8 (([97, 98, 115, 40] : List Int32).getD i 0)) ∧ Sb Z h308 x305 t306 k306 16 4 g := ⟨_, own_ap1 (cs := []) (ds := [97, 98, 115, 40]) rfl rfl hg306, B308⟩
  refine W.g_aloadN (pc1 := 13) P308.q d14_12 rfl rfl rfl ?_
  refine P308.callV (pc1 := 16) B308.1 (wd hw (k := 83) rfl) (wd hw (k := 84) rfl) (wd hw (k := 86) rfl) (wd hw (k := 85) rfl) (notFace_of_selects (args := #[]) (mvT P308.hz (wd hw (k := 86) rfl))) (by decide) (W.MetN.pay (W := 0) (c_sapp l Z a0 hw x305 t306 k306 16 4 g308 sa ta ka 1 (fun i => ([ca] : List Int32).getD i 0) h308 B308 (La.ext P308.ext0) (by decide) (P308.extZ EZ all0) zc fm US) P308 (wd hw (k := 87) rfl) (wd hw (k := 64) rfl) (by decide) (by decide)) (argsL := [(.ref sa)]) (st0 := []) (lenOf pd_Ljava_lang_String_R_Ljava_lang_StringBuilder rfl) rfl rfl (Nat.le_of_eq rfl) (by rw [hml]; rfl) (by decide) (by decide) (fun _ _ _ q => ⟨q.2.1.up P308.sz (allS (Or.inr hx305) (allS (Or.inr ht306) all0)), CHr.keep q.2.2.1 (sfS Sx308 (sfS St308 sf0)) P308.chv⟩) d14_13 rfl ?_
  intro v309 T309 h309 L309 q309 P309
  obtain ⟨rfl, f309, K309, B309⟩ := q309
  show W.Go p.tables e below _ (T309.setTop (mkF m 16 #[.val (.ref e9), .val (.ref sa), .val (.ref sb), .val (.ref st), .unset] [(.ref x305)]))
  have Sx309 : Safe Z ownEL _ h309 x305 := Safe.keep K309 (sfS Sx308 (sfS St308 sf0)) P308.chv Sx308
  have St309 : Safe Z ownEL _ h309 t306 := Safe.keep K309 (sfS Sx308 (sfS St308 sf0)) P308.chv St308
  have L309_y307 := L308_y307.keep K309 (ninS nx307_y307.1 (ninS nx307_y307.2.2.1 nin0)) (ninS nx307_y307.2.1 (ninS nx307_y307.2.2.2 nin0))
  obtain ⟨g309, hg309, B309⟩ : ∃ g : Nat → Int32, (∀ i, i < 5 → g i = StrChars.lo8 (([97, 98, 115, 40, ca] : List Int32).getD i 0)) ∧ Sb Z h309 x305 t306 k306 16 5 g := ⟨_, own_ap1 (cs := [97, 98, 115, 40]) (ds := [ca]) rfl rfl hg308, B309⟩
  refine P309.ldcK (pc1 := 18) (n := 12) (vs := [.int 32, .int 45, .int 32]) (z := 3) (wd hw (k := 130) rfl) wS hEL (by decide) ⟨by decide, by decide +kernel⟩ (by decide) (by decide) (by decide) (by decide) (by decide) (by decide) d14_16 rfl ?_
  intro y310 T310 h310 t310 k310 P310 E310 R310 A310 C310 F310 V310 N310 I310 M310
  have L310_y307 := L309_y307.ext E310
  have I310_y307 := Lit.stays I307 M310
  have LL310 : Lt Z h310 y310 t310 k310 3 (fun i => ([32, 45, 32] : List Int32).getD i 0) := ⟨A310, F310, C310, W.Arg.of 3 V310 rfl (by decide) (fun i hi => match i, hi with | 0, _ => rfl | 1, _ => rfl | 2, _ => rfl | k + 3, hk => absurd hk (Nat.not_lt.mpr (Nat.le_add_left _ _))), own_byD (cs := [32, 45, 32]) (List.forall_mem_cons.mpr ⟨(own_b 32), (List.forall_mem_cons.mpr ⟨(own_b 45), (List.forall_mem_cons.mpr ⟨(own_b 32), (fun c hc => absurd hc (List.not_mem_nil))⟩)⟩)⟩)⟩
  have B310 := B309.ext E310
  have Sx310 := R310.safe B309.1.lt Sx309
  have St310 := R310.safe B309.2.2.2.2.1.lt St309
  have nx310_y310 : ¬ y310 = x305 ∧ ¬ t310 = x305 ∧ ¬ y310 = t306 ∧ ¬ t310 = t306 := ⟨Ne.symm (N310 _ Sx310).1, Ne.symm (N310 _ Sx310).2, Ne.symm (N310 _ St310).1, Ne.symm (N310 _ St310).2⟩
  refine P310.callV (pc1 := 21) B310.1 (wd hw (k := 83) rfl) (wd hw (k := 84) rfl) (wd hw (k := 86) rfl) (wd hw (k := 85) rfl) (notFace_of_selects (args := #[]) (mvT P310.hz (wd hw (k := 86) rfl))) (by decide) (W.MetN.pay (W := 0) (c_sapp l Z a0 hw x305 t306 k306 16 5 g309 y310 t310 k310 3 (fun i => ([32, 45, 32] : List Int32).getD i 0) h310 B310 (LL310) (by decide) (P310.extZ EZ all0) zc fm US) P310 (wd hw (k := 87) rfl) (wd hw (k := 64) rfl) (by decide) (by decide)) (argsL := [(.ref y310)]) (st0 := []) (lenOf pd_Ljava_lang_String_R_Ljava_lang_StringBuilder rfl) rfl rfl (Nat.le_of_eq rfl) (by rw [hml]; rfl) (by decide) (by decide) (fun _ _ _ q => ⟨q.2.1.up P310.sz (allS (Or.inr hx305) (allS (Or.inr ht306) all0)), CHr.keep q.2.2.1 (sfS Sx310 (sfS St310 sf0)) P310.chv⟩) d14_18 rfl ?_
  intro v311 T311 h311 L311 q311 P311
  obtain ⟨rfl, f311, K311, B311⟩ := q311
  show W.Go p.tables e below _ (T311.setTop (mkF m 21 #[.val (.ref e9), .val (.ref sa), .val (.ref sb), .val (.ref st), .unset] [(.ref x305)]))
  have Sx311 : Safe Z ownEL _ h311 x305 := Safe.keep K311 (sfS Sx310 (sfS St310 sf0)) P310.chv Sx310
  have St311 : Safe Z ownEL _ h311 t306 := Safe.keep K311 (sfS Sx310 (sfS St310 sf0)) P310.chv St310
  have L311_y307 := L310_y307.keep K311 (ninS nx307_y307.1 (ninS nx307_y307.2.2.1 nin0)) (ninS nx307_y307.2.1 (ninS nx307_y307.2.2.2 nin0))
  have L311_y310 := LL310.keep K311 (ninS nx310_y310.1 (ninS nx310_y310.2.2.1 nin0)) (ninS nx310_y310.2.1 (ninS nx310_y310.2.2.2 nin0))
  obtain ⟨g311, hg311, B311⟩ : ∃ g : Nat → Int32, (∀ i, i < 8 → g i = StrChars.lo8 (([97, 98, 115, 40, ca, 32, 45, 32] : List Int32).getD i 0)) ∧ Sb Z h311 x305 t306 k306 16 8 g := ⟨_, own_ap1 (cs := [97, 98, 115, 40, ca]) (ds := [32, 45, 32]) rfl rfl hg309, B311⟩
  refine W.g_aloadN (pc1 := 22) P311.q d14_21 rfl rfl rfl ?_
  refine P311.callV (pc1 := 25) B311.1 (wd hw (k := 83) rfl) (wd hw (k := 84) rfl) (wd hw (k := 86) rfl) (wd hw (k := 85) rfl) (notFace_of_selects (args := #[]) (mvT P311.hz (wd hw (k := 86) rfl))) (by decide) (W.MetN.pay (W := 0) (c_sapp l Z a0 hw x305 t306 k306 16 8 g311 sb tb kb 1 (fun i => ([cb] : List Int32).getD i 0) h311 B311 (Lb.ext P311.ext0) (by decide) (P311.extZ EZ all0) zc fm US) P311 (wd hw (k := 87) rfl) (wd hw (k := 64) rfl) (by decide) (by decide)) (argsL := [(.ref sb)]) (st0 := []) (lenOf pd_Ljava_lang_String_R_Ljava_lang_StringBuilder rfl) rfl rfl (Nat.le_of_eq rfl) (by rw [hml]; rfl) (by decide) (by decide) (fun _ _ _ q => ⟨q.2.1.up P311.sz (allS (Or.inr hx305) (allS (Or.inr ht306) all0)), CHr.keep q.2.2.1 (sfS Sx311 (sfS St311 sf0)) P311.chv⟩) d14_22 rfl ?_
  intro v312 T312 h312 L312 q312 P312
  obtain ⟨rfl, f312, K312, B312⟩ := q312
  show W.Go p.tables e below _ (T312.setTop (mkF m 25 #[.val (.ref e9), .val (.ref sa), .val (.ref sb), .val (.ref st), .unset] [(.ref x305)]))
  have Sx312 : Safe Z ownEL _ h312 x305 := Safe.keep K312 (sfS Sx311 (sfS St311 sf0)) P311.chv Sx311
  have St312 : Safe Z ownEL _ h312 t306 := Safe.keep K312 (sfS Sx311 (sfS St311 sf0)) P311.chv St311
  have L312_y307 := L311_y307.keep K312 (ninS nx307_y307.1 (ninS nx307_y307.2.2.1 nin0)) (ninS nx307_y307.2.1 (ninS nx307_y307.2.2.2 nin0))
  have L312_y310 := L311_y310.keep K312 (ninS nx310_y310.1 (ninS nx310_y310.2.2.1 nin0)) (ninS nx310_y310.2.1 (ninS nx310_y310.2.2.2 nin0))
  obtain ⟨g312, hg312, B312⟩ : ∃ g : Nat → Int32, (∀ i, i < 9 → g i = StrChars.lo8 (([97, 98, 115, 40, ca, 32, 45, 32, cb] : List Int32).getD i 0)) ∧ Sb Z h312 x305 t306 k306 16 9 g := ⟨_, own_ap1 (cs := [97, 98, 115, 40, ca, 32, 45, 32]) (ds := [cb]) rfl rfl hg311, B312⟩
  refine P312.ldcK (pc1 := 27) (n := 20) (vs := [.int 41, .int 32, .int 60, .int 61, .int 32]) (z := 5) (wd hw (k := 131) rfl) wS hEL (by decide) ⟨by decide, by decide +kernel⟩ (by decide) (by decide) (by decide) (by decide) (by decide) (by decide) d14_25 rfl ?_
  intro y313 T313 h313 t313 k313 P313 E313 R313 A313 C313 F313 V313 N313 I313 M313
  have L313_y307 := L312_y307.ext E313
  have I313_y307 := Lit.stays I310_y307 M313
  have L313_y310 := L312_y310.ext E313
  have I313_y310 := Lit.stays I310 M313
  have LL313 : Lt Z h313 y313 t313 k313 5 (fun i => ([41, 32, 60, 61, 32] : List Int32).getD i 0) := ⟨A313, F313, C313, W.Arg.of 5 V313 rfl (by decide) (fun i hi => match i, hi with | 0, _ => rfl | 1, _ => rfl | 2, _ => rfl | 3, _ => rfl | 4, _ => rfl | k + 5, hk => absurd hk (Nat.not_lt.mpr (Nat.le_add_left _ _))), own_byD (cs := [41, 32, 60, 61, 32]) (List.forall_mem_cons.mpr ⟨(own_b 41), (List.forall_mem_cons.mpr ⟨(own_b 32), (List.forall_mem_cons.mpr ⟨(own_b 60), (List.forall_mem_cons.mpr ⟨(own_b 61), (List.forall_mem_cons.mpr ⟨(own_b 32), (fun c hc => absurd hc (List.not_mem_nil))⟩)⟩)⟩)⟩)⟩)⟩
  have B313 := B312.ext E313
  have Sx313 := R313.safe B312.1.lt Sx312
  have St313 := R313.safe B312.2.2.2.2.1.lt St312
  have nx313_y313 : ¬ y313 = x305 ∧ ¬ t313 = x305 ∧ ¬ y313 = t306 ∧ ¬ t313 = t306 := ⟨Ne.symm (N313 _ Sx313).1, Ne.symm (N313 _ Sx313).2, Ne.symm (N313 _ St313).1, Ne.symm (N313 _ St313).2⟩
  refine P313.callV (pc1 := 30) B313.1 (wd hw (k := 83) rfl) (wd hw (k := 84) rfl) (wd hw (k := 86) rfl) (wd hw (k := 85) rfl) (notFace_of_selects (args := #[]) (mvT P313.hz (wd hw (k := 86) rfl))) (by decide) (W.MetN.pay (W := 0) (c_sapp l Z a0 hw x305 t306 k306 16 9 g312 y313 t313 k313 5 (fun i => ([41, 32, 60, 61, 32] : List Int32).getD i 0) h313 B313 (LL313) (by decide) (P313.extZ EZ all0) zc fm US) P313 (wd hw (k := 87) rfl) (wd hw (k := 64) rfl) (by decide) (by decide)) (argsL := [(.ref y313)]) (st0 := []) (lenOf pd_Ljava_lang_String_R_Ljava_lang_StringBuilder rfl) rfl rfl (Nat.le_of_eq rfl) (by rw [hml]; rfl) (by decide) (by decide) (fun _ _ _ q => ⟨q.2.1.up P313.sz (allS (Or.inr hx305) (allS (Or.inr ht306) all0)), CHr.keep q.2.2.1 (sfS Sx313 (sfS St313 sf0)) P313.chv⟩) d14_27 rfl ?_
  intro v314 T314 h314 L314 q314 P314
  obtain ⟨rfl, f314, K314, B314⟩ := q314
  show W.Go p.tables e below _ (T314.setTop (mkF m 30 #[.val (.ref e9), .val (.ref sa), .val (.ref sb), .val (.ref st), .unset] [(.ref x305)]))
  have Sx314 : Safe Z ownEL _ h314 x305 := Safe.keep K314 (sfS Sx313 (sfS St313 sf0)) P313.chv Sx313
  have St314 : Safe Z ownEL _ h314 t306 := Safe.keep K314 (sfS Sx313 (sfS St313 sf0)) P313.chv St313
  have L314_y307 := L313_y307.keep K314 (ninS nx307_y307.1 (ninS nx307_y307.2.2.1 nin0)) (ninS nx307_y307.2.1 (ninS nx307_y307.2.2.2 nin0))
  have L314_y310 := L313_y310.keep K314 (ninS nx310_y310.1 (ninS nx310_y310.2.2.1 nin0)) (ninS nx310_y310.2.1 (ninS nx310_y310.2.2.2 nin0))
  have L314_y313 := LL313.keep K314 (ninS nx313_y313.1 (ninS nx313_y313.2.2.1 nin0)) (ninS nx313_y313.2.1 (ninS nx313_y313.2.2.2 nin0))
  obtain ⟨g314, hg314, B314⟩ : ∃ g : Nat → Int32, (∀ i, i < 14 → g i = StrChars.lo8 (([97, 98, 115, 40, ca, 32, 45, 32, cb, 41, 32, 60, 61, 32] : List Int32).getD i 0)) ∧ Sb Z h314 x305 t306 k306 16 14 g := ⟨_, own_ap1 (cs := [97, 98, 115, 40, ca, 32, 45, 32, cb]) (ds := [41, 32, 60, 61, 32]) rfl rfl hg312, B314⟩
  refine W.g_aloadN (pc1 := 31) P314.q d14_30 rfl rfl rfl ?_
  refine P314.callV (pc1 := 34) B314.1 (wd hw (k := 83) rfl) (wd hw (k := 84) rfl) (wd hw (k := 86) rfl) (wd hw (k := 85) rfl) (notFace_of_selects (args := #[]) (mvT P314.hz (wd hw (k := 86) rfl))) (by decide) (W.MetN.pay (W := 0) (c_sapp l Z a0 hw x305 t306 k306 16 14 g314 st tt kt 1 (fun i => ([ct] : List Int32).getD i 0) h314 B314 (Lc.ext P314.ext0) (by decide) (P314.extZ EZ all0) zc fm US) P314 (wd hw (k := 87) rfl) (wd hw (k := 64) rfl) (by decide) (by decide)) (argsL := [(.ref st)]) (st0 := []) (lenOf pd_Ljava_lang_String_R_Ljava_lang_StringBuilder rfl) rfl rfl (Nat.le_of_eq rfl) (by rw [hml]; rfl) (by decide) (by decide) (fun _ _ _ q => ⟨q.2.1.up P314.sz (allS (Or.inr hx305) (allS (Or.inr ht306) all0)), CHr.keep q.2.2.1 (sfS Sx314 (sfS St314 sf0)) P314.chv⟩) d14_31 rfl ?_
  intro v315 T315 h315 L315 q315 P315
  obtain ⟨rfl, f315, K315, B315⟩ := q315
  show W.Go p.tables e below _ (T315.setTop (mkF m 34 #[.val (.ref e9), .val (.ref sa), .val (.ref sb), .val (.ref st), .unset] [(.ref x305)]))
  have Sx315 : Safe Z ownEL _ h315 x305 := Safe.keep K315 (sfS Sx314 (sfS St314 sf0)) P314.chv Sx314
  have St315 : Safe Z ownEL _ h315 t306 := Safe.keep K315 (sfS Sx314 (sfS St314 sf0)) P314.chv St314
  have L315_y307 := L314_y307.keep K315 (ninS nx307_y307.1 (ninS nx307_y307.2.2.1 nin0)) (ninS nx307_y307.2.1 (ninS nx307_y307.2.2.2 nin0))
  have L315_y310 := L314_y310.keep K315 (ninS nx310_y310.1 (ninS nx310_y310.2.2.1 nin0)) (ninS nx310_y310.2.1 (ninS nx310_y310.2.2.2 nin0))
  have L315_y313 := L314_y313.keep K315 (ninS nx313_y313.1 (ninS nx313_y313.2.2.1 nin0)) (ninS nx313_y313.2.1 (ninS nx313_y313.2.2.2 nin0))
  obtain ⟨g315, hg315, B315⟩ : ∃ g : Nat → Int32, (∀ i, i < 15 → g i = StrChars.lo8 (([97, 98, 115, 40, ca, 32, 45, 32, cb, 41, 32, 60, 61, 32, ct] : List Int32).getD i 0)) ∧ Sb Z h315 x305 t306 k306 16 15 g := ⟨_, own_ap1 (cs := [97, 98, 115, 40, ca, 32, 45, 32, cb, 41, 32, 60, 61, 32]) (ds := [ct]) rfl rfl hg314, B315⟩
  refine P315.ldcK (pc1 := 36) (n := 28) (vs := [.int 32, .int 42, .int 32, .int 97, .int 98, .int 115, .int 40]) (z := 7) (wd hw (k := 132) rfl) wS hEL (by decide) ⟨by decide, by decide +kernel⟩ (by decide) (by decide) (by decide) (by decide) (by decide) (by decide) d14_34 rfl ?_
  intro y316 T316 h316 t316 k316 P316 E316 R316 A316 C316 F316 V316 N316 I316 M316
  have L316_y307 := L315_y307.ext E316
  have I316_y307 := Lit.stays I313_y307 M316
  have L316_y310 := L315_y310.ext E316
  have I316_y310 := Lit.stays I313_y310 M316
  have L316_y313 := L315_y313.ext E316
  have I316_y313 := Lit.stays I313 M316
  have LL316 : Lt Z h316 y316 t316 k316 7 (fun i => ([32, 42, 32, 97, 98, 115, 40] : List Int32).getD i 0) := ⟨A316, F316, C316, W.Arg.of 7 V316 rfl (by decide) (fun i hi => match i, hi with | 0, _ => rfl | 1, _ => rfl | 2, _ => rfl | 3, _ => rfl | 4, _ => rfl | 5, _ => rfl | 6, _ => rfl | k + 7, hk => absurd hk (Nat.not_lt.mpr (Nat.le_add_left _ _))), own_byD (cs := [32, 42, 32, 97, 98, 115, 40]) (List.forall_mem_cons.mpr ⟨(own_b 32), (List.forall_mem_cons.mpr ⟨(own_b 42), (List.forall_mem_cons.mpr ⟨(own_b 32), (List.forall_mem_cons.mpr ⟨(own_b 97), (List.forall_mem_cons.mpr ⟨(own_b 98), (List.forall_mem_cons.mpr ⟨(own_b 115), (List.forall_mem_cons.mpr ⟨(own_b 40), (fun c hc => absurd hc (List.not_mem_nil))⟩)⟩)⟩)⟩)⟩)⟩)⟩)⟩
  have B316 := B315.ext E316
  have Sx316 := R316.safe B315.1.lt Sx315
  have St316 := R316.safe B315.2.2.2.2.1.lt St315
  have nx316_y316 : ¬ y316 = x305 ∧ ¬ t316 = x305 ∧ ¬ y316 = t306 ∧ ¬ t316 = t306 := ⟨Ne.symm (N316 _ Sx316).1, Ne.symm (N316 _ Sx316).2, Ne.symm (N316 _ St316).1, Ne.symm (N316 _ St316).2⟩
  refine P316.callV (pc1 := 39) B316.1 (wd hw (k := 83) rfl) (wd hw (k := 84) rfl) (wd hw (k := 86) rfl) (wd hw (k := 85) rfl) (notFace_of_selects (args := #[]) (mvT P316.hz (wd hw (k := 86) rfl))) (by decide) (W.MetN.pay (W := 0) (c_sappg l Z a0 hw x305 t306 k306 16 15 g315 y316 t316 k316 7 (fun i => ([32, 42, 32, 97, 98, 115, 40] : List Int32).getD i 0) h316 B316 (LL316) 34 (by decide) (by decide) (by decide) nx316_y316.1 nx316_y316.2.1 hzx305 (P316.extZ EZ all0) zc fm US) P316 (wd hw (k := 87) rfl) (wd hw (k := 64) rfl) (by decide) (by decide)) (argsL := [(.ref y316)]) (st0 := []) (lenOf pd_Ljava_lang_String_R_Ljava_lang_StringBuilder rfl) rfl rfl (Nat.le_of_eq rfl) (by rw [hml]; rfl) (by decide) (by decide) (fun _ _ _ q => ⟨q.2.1.up P316.sz (allS (Or.inr hx305) all0), CHr.keep q.2.2.1 (sfS Sx316 sf0) P316.chv⟩) d14_36 rfl ?_
  intro v317 T317 h317 L317 q317 P317
  obtain ⟨rfl, f317, K317, t317, k317, n317, B317⟩ := q317
  show W.Go p.tables e below _ (T317.setTop (mkF m 39 #[.val (.ref e9), .val (.ref sa), .val (.ref sb), .val (.ref st), .unset] [(.ref x305)]))
  have Sx317 : Safe Z ownEL _ h317 x305 := Safe.keep K317 (sfS Sx316 sf0) P316.chv Sx316
  have St317 : Safe Z ownEL _ h317 t317 := Safe.keep K317 (sfS Sx316 sf0) P316.chv (Safe.new n317)
  have ht317 : h0.size ≤ t317 := Nat.le_trans P316.sz n317
  have nx317_y307 : ¬ y307 = x305 ∧ ¬ t307 = x305 ∧ ¬ y307 = t317 ∧ ¬ t307 = t317 := ⟨nx307_y307.1, nx307_y307.2.1, Nat.ne_of_lt (Nat.lt_of_lt_of_le L316_y307.1.lt n317), Nat.ne_of_lt (Nat.lt_of_lt_of_le L316_y307.2.2.2.1.lt n317)⟩
  have L317_y307 := L316_y307.keep K317 (ninS nx307_y307.1 nin0) (ninS nx307_y307.2.1 nin0)
  have nx317_y310 : ¬ y310 = x305 ∧ ¬ t310 = x305 ∧ ¬ y310 = t317 ∧ ¬ t310 = t317 := ⟨nx310_y310.1, nx310_y310.2.1, Nat.ne_of_lt (Nat.lt_of_lt_of_le L316_y310.1.lt n317), Nat.ne_of_lt (Nat.lt_of_lt_of_le L316_y310.2.2.2.1.lt n317)⟩
  have L317_y310 := L316_y310.keep K317 (ninS nx310_y310.1 nin0) (ninS nx310_y310.2.1 nin0)
  have nx317_y313 : ¬ y313 = x305 ∧ ¬ t313 = x305 ∧ ¬ y313 = t317 ∧ ¬ t313 = t317 := ⟨nx313_y313.1, nx313_y313.2.1, Nat.ne_of_lt (Nat.lt_of_lt_of_le L316_y313.1.lt n317), Nat.ne_of_lt (Nat.lt_of_lt_of_le L316_y313.2.2.2.1.lt n317)⟩
  have L317_y313 := L316_y313.keep K317 (ninS nx313_y313.1 nin0) (ninS nx313_y313.2.1 nin0)
  have nx317_y316 : ¬ y316 = x305 ∧ ¬ t316 = x305 ∧ ¬ y316 = t317 ∧ ¬ t316 = t317 := ⟨nx316_y316.1, nx316_y316.2.1, Nat.ne_of_lt (Nat.lt_of_lt_of_le LL316.1.lt n317), Nat.ne_of_lt (Nat.lt_of_lt_of_le LL316.2.2.2.1.lt n317)⟩
  have L317_y316 := LL316.keep K317 (ninS nx316_y316.1 nin0) (ninS nx316_y316.2.1 nin0)
  obtain ⟨g317, hg317, B317⟩ : ∃ g : Nat → Int32, (∀ i, i < 22 → g i = StrChars.lo8 (([97, 98, 115, 40, ca, 32, 45, 32, cb, 41, 32, 60, 61, 32, ct, 32, 42, 32, 97, 98, 115, 40] : List Int32).getD i 0)) ∧ Sb Z h317 x305 t317 k317 34 22 g := ⟨_, own_ap1 (cs := [97, 98, 115, 40, ca, 32, 45, 32, cb, 41, 32, 60, 61, 32, ct]) (ds := [32, 42, 32, 97, 98, 115, 40]) rfl rfl (own_ap2 (cnt := 15) (by decide) hg315), B317⟩
  refine W.g_aloadN (pc1 := 40) P317.q d14_39 rfl rfl rfl ?_
  refine P317.callV (pc1 := 43) B317.1 (wd hw (k := 83) rfl) (wd hw (k := 84) rfl) (wd hw (k := 86) rfl) (wd hw (k := 85) rfl) (notFace_of_selects (args := #[]) (mvT P317.hz (wd hw (k := 86) rfl))) (by decide) (W.MetN.pay (W := 0) (c_sapp l Z a0 hw x305 t317 k317 34 22 g317 sa ta ka 1 (fun i => ([ca] : List Int32).getD i 0) h317 B317 (La.ext P317.ext0) (by decide) (P317.extZ EZ all0) zc fm US) P317 (wd hw (k := 87) rfl) (wd hw (k := 64) rfl) (by decide) (by decide)) (argsL := [(.ref sa)]) (st0 := []) (lenOf pd_Ljava_lang_String_R_Ljava_lang_StringBuilder rfl) rfl rfl (Nat.le_of_eq rfl) (by rw [hml]; rfl) (by decide) (by decide) (fun _ _ _ q => ⟨q.2.1.up P317.sz (allS (Or.inr hx305) (allS (Or.inr ht317) all0)), CHr.keep q.2.2.1 (sfS Sx317 (sfS St317 sf0)) P317.chv⟩) d14_40 rfl ?_
  intro v318 T318 h318 L318 q318 P318
  obtain ⟨rfl, f318, K318, B318⟩ := q318
  show W.Go p.tables e below _ (T318.setTop (mkF m 43 #[.val (.ref e9), .val (.ref sa), .val (.ref sb), .val (.ref st), .unset] [(.ref x305)]))
  have Sx318 : Safe Z ownEL _ h318 x305 := Safe.keep K318 (sfS Sx317 (sfS St317 sf0)) P317.chv Sx317
  have St318 : Safe Z ownEL _ h318 t317 := Safe.keep K318 (sfS Sx317 (sfS St317 sf0)) P317.chv St317
  have L318_y307 := L317_y307.keep K318 (ninS nx317_y307.1 (ninS nx317_y307.2.2.1 nin0)) (ninS nx317_y307.2.1 (ninS nx317_y307.2.2.2 nin0))
  have L318_y310 := L317_y310.keep K318 (ninS nx317_y310.1 (ninS nx317_y310.2.2.1 nin0)) (ninS nx317_y310.2.1 (ninS nx317_y310.2.2.2 nin0))
  have L318_y313 := L317_y313.keep K318 (ninS nx317_y313.1 (ninS nx317_y313.2.2.1 nin0)) (ninS nx317_y313.2.1 (ninS nx317_y313.2.2.2 nin0))
  have L318_y316 := L317_y316.keep K318 (ninS nx317_y316.1 (ninS nx317_y316.2.2.1 nin0)) (ninS nx317_y316.2.1 (ninS nx317_y316.2.2.2 nin0))
  obtain ⟨g318, hg318, B318⟩ : ∃ g : Nat → Int32, (∀ i, i < 23 → g i = StrChars.lo8 (([97, 98, 115, 40, ca, 32, 45, 32, cb, 41, 32, 60, 61, 32, ct, 32, 42, 32, 97, 98, 115, 40, ca] : List Int32).getD i 0)) ∧ Sb Z h318 x305 t317 k317 34 23 g := ⟨_, own_ap1 (cs := [97, 98, 115, 40, ca, 32, 45, 32, cb, 41, 32, 60, 61, 32, ct, 32, 42, 32, 97, 98, 115, 40]) (ds := [ca]) rfl rfl hg317, B318⟩
  refine P318.ldcK (pc1 := 45) (n := 36) (vs := [.int 41, .int 32, .int 111, .int 114, .int 32, .int 97, .int 98, .int 115, .int 40]) (z := 9) (wd hw (k := 156) rfl) wS hEL (by decide) ⟨by decide, by decide +kernel⟩ (by decide) (by decide) (by decide) (by decide) (by decide) (by decide) d14_43 rfl ?_
  intro y319 T319 h319 t319 k319 P319 E319 R319 A319 C319 F319 V319 N319 I319 M319
  have L319_y307 := L318_y307.ext E319
  have I319_y307 := Lit.stays I316_y307 M319
  have L319_y310 := L318_y310.ext E319
  have I319_y310 := Lit.stays I316_y310 M319
  have L319_y313 := L318_y313.ext E319
  have I319_y313 := Lit.stays I316_y313 M319
  have L319_y316 := L318_y316.ext E319
  have I319_y316 := Lit.stays I316 M319
  have LL319 : Lt Z h319 y319 t319 k319 9 (fun i => ([41, 32, 111, 114, 32, 97, 98, 115, 40] : List Int32).getD i 0) := ⟨A319, F319, C319, W.Arg.of 9 V319 rfl (by decide) (fun i hi => match i, hi with | 0, _ => rfl | 1, _ => rfl | 2, _ => rfl | 3, _ => rfl | 4, _ => rfl | 5, _ => rfl | 6, _ => rfl | 7, _ => rfl | 8, _ => rfl | k + 9, hk => absurd hk (Nat.not_lt.mpr (Nat.le_add_left _ _))), own_byD (cs := [41, 32, 111, 114, 32, 97, 98, 115, 40]) (List.forall_mem_cons.mpr ⟨(own_b 41), (List.forall_mem_cons.mpr ⟨(own_b 32), (List.forall_mem_cons.mpr ⟨(own_b 111), (List.forall_mem_cons.mpr ⟨(own_b 114), (List.forall_mem_cons.mpr ⟨(own_b 32), (List.forall_mem_cons.mpr ⟨(own_b 97), (List.forall_mem_cons.mpr ⟨(own_b 98), (List.forall_mem_cons.mpr ⟨(own_b 115), (List.forall_mem_cons.mpr ⟨(own_b 40), (fun c hc => absurd hc (List.not_mem_nil))⟩)⟩)⟩)⟩)⟩)⟩)⟩)⟩)⟩)⟩
  have B319 := B318.ext E319
  have Sx319 := R319.safe B318.1.lt Sx318
  have St319 := R319.safe B318.2.2.2.2.1.lt St318
  have nx319_y319 : ¬ y319 = x305 ∧ ¬ t319 = x305 ∧ ¬ y319 = t317 ∧ ¬ t319 = t317 := ⟨Ne.symm (N319 _ Sx319).1, Ne.symm (N319 _ Sx319).2, Ne.symm (N319 _ St319).1, Ne.symm (N319 _ St319).2⟩
  refine P319.callV (pc1 := 48) B319.1 (wd hw (k := 83) rfl) (wd hw (k := 84) rfl) (wd hw (k := 86) rfl) (wd hw (k := 85) rfl) (notFace_of_selects (args := #[]) (mvT P319.hz (wd hw (k := 86) rfl))) (by decide) (W.MetN.pay (W := 0) (c_sapp l Z a0 hw x305 t317 k317 34 23 g318 y319 t319 k319 9 (fun i => ([41, 32, 111, 114, 32, 97, 98, 115, 40] : List Int32).getD i 0) h319 B319 (LL319) (by decide) (P319.extZ EZ all0) zc fm US) P319 (wd hw (k := 87) rfl) (wd hw (k := 64) rfl) (by decide) (by decide)) (argsL := [(.ref y319)]) (st0 := []) (lenOf pd_Ljava_lang_String_R_Ljava_lang_StringBuilder rfl) rfl rfl (Nat.le_of_eq rfl) (by rw [hml]; rfl) (by decide) (by decide) (fun _ _ _ q => ⟨q.2.1.up P319.sz (allS (Or.inr hx305) (allS (Or.inr ht317) all0)), CHr.keep q.2.2.1 (sfS Sx319 (sfS St319 sf0)) P319.chv⟩) d14_45 rfl ?_
  intro v320 T320 h320 L320 q320 P320
  obtain ⟨rfl, f320, K320, B320⟩ := q320
  show W.Go p.tables e below _ (T320.setTop (mkF m 48 #[.val (.ref e9), .val (.ref sa), .val (.ref sb), .val (.ref st), .unset] [(.ref x305)]))
  have Sx320 : Safe Z ownEL _ h320 x305 := Safe.keep K320 (sfS Sx319 (sfS St319 sf0)) P319.chv Sx319
  have St320 : Safe Z ownEL _ h320 t317 := Safe.keep K320 (sfS Sx319 (sfS St319 sf0)) P319.chv St319
  have L320_y307 := L319_y307.keep K320 (ninS nx317_y307.1 (ninS nx317_y307.2.2.1 nin0)) (ninS nx317_y307.2.1 (ninS nx317_y307.2.2.2 nin0))
  have L320_y310 := L319_y310.keep K320 (ninS nx317_y310.1 (ninS nx317_y310.2.2.1 nin0)) (ninS nx317_y310.2.1 (ninS nx317_y310.2.2.2 nin0))
  have L320_y313 := L319_y313.keep K320 (ninS nx317_y313.1 (ninS nx317_y313.2.2.1 nin0)) (ninS nx317_y313.2.1 (ninS nx317_y313.2.2.2 nin0))
  have L320_y316 := L319_y316.keep K320 (ninS nx317_y316.1 (ninS nx317_y316.2.2.1 nin0)) (ninS nx317_y316.2.1 (ninS nx317_y316.2.2.2 nin0))
  have L320_y319 := LL319.keep K320 (ninS nx319_y319.1 (ninS nx319_y319.2.2.1 nin0)) (ninS nx319_y319.2.1 (ninS nx319_y319.2.2.2 nin0))
  obtain ⟨g320, hg320, B320⟩ : ∃ g : Nat → Int32, (∀ i, i < 32 → g i = StrChars.lo8 (([97, 98, 115, 40, ca, 32, 45, 32, cb, 41, 32, 60, 61, 32, ct, 32, 42, 32, 97, 98, 115, 40, ca, 41, 32, 111, 114, 32, 97, 98, 115, 40] : List Int32).getD i 0)) ∧ Sb Z h320 x305 t317 k317 34 32 g := ⟨_, own_ap1 (cs := [97, 98, 115, 40, ca, 32, 45, 32, cb, 41, 32, 60, 61, 32, ct, 32, 42, 32, 97, 98, 115, 40, ca]) (ds := [41, 32, 111, 114, 32, 97, 98, 115, 40]) rfl rfl hg318, B320⟩
  refine W.g_aloadN (pc1 := 49) P320.q d14_48 rfl rfl rfl ?_
  refine P320.callV (pc1 := 52) B320.1 (wd hw (k := 83) rfl) (wd hw (k := 84) rfl) (wd hw (k := 86) rfl) (wd hw (k := 85) rfl) (notFace_of_selects (args := #[]) (mvT P320.hz (wd hw (k := 86) rfl))) (by decide) (W.MetN.pay (W := 0) (c_sapp l Z a0 hw x305 t317 k317 34 32 g320 sa ta ka 1 (fun i => ([ca] : List Int32).getD i 0) h320 B320 (La.ext P320.ext0) (by decide) (P320.extZ EZ all0) zc fm US) P320 (wd hw (k := 87) rfl) (wd hw (k := 64) rfl) (by decide) (by decide)) (argsL := [(.ref sa)]) (st0 := []) (lenOf pd_Ljava_lang_String_R_Ljava_lang_StringBuilder rfl) rfl rfl (Nat.le_of_eq rfl) (by rw [hml]; rfl) (by decide) (by decide) (fun _ _ _ q => ⟨q.2.1.up P320.sz (allS (Or.inr hx305) (allS (Or.inr ht317) all0)), CHr.keep q.2.2.1 (sfS Sx320 (sfS St320 sf0)) P320.chv⟩) d14_49 rfl ?_
  intro v321 T321 h321 L321 q321 P321
  obtain ⟨rfl, f321, K321, B321⟩ := q321
  show W.Go p.tables e below _ (T321.setTop (mkF m 52 #[.val (.ref e9), .val (.ref sa), .val (.ref sb), .val (.ref st), .unset] [(.ref x305)]))
  have Sx321 : Safe Z ownEL _ h321 x305 := Safe.keep K321 (sfS Sx320 (sfS St320 sf0)) P320.chv Sx320
  have St321 : Safe Z ownEL _ h321 t317 := Safe.keep K321 (sfS Sx320 (sfS St320 sf0)) P320.chv St320
  have L321_y307 := L320_y307.keep K321 (ninS nx317_y307.1 (ninS nx317_y307.2.2.1 nin0)) (ninS nx317_y307.2.1 (ninS nx317_y307.2.2.2 nin0))
  have L321_y310 := L320_y310.keep K321 (ninS nx317_y310.1 (ninS nx317_y310.2.2.1 nin0)) (ninS nx317_y310.2.1 (ninS nx317_y310.2.2.2 nin0))
  have L321_y313 := L320_y313.keep K321 (ninS nx317_y313.1 (ninS nx317_y313.2.2.1 nin0)) (ninS nx317_y313.2.1 (ninS nx317_y313.2.2.2 nin0))
  have L321_y316 := L320_y316.keep K321 (ninS nx317_y316.1 (ninS nx317_y316.2.2.1 nin0)) (ninS nx317_y316.2.1 (ninS nx317_y316.2.2.2 nin0))
  have L321_y319 := L320_y319.keep K321 (ninS nx319_y319.1 (ninS nx319_y319.2.2.1 nin0)) (ninS nx319_y319.2.1 (ninS nx319_y319.2.2.2 nin0))
  obtain ⟨g321, hg321, B321⟩ : ∃ g : Nat → Int32, (∀ i, i < 33 → g i = StrChars.lo8 (([97, 98, 115, 40, ca, 32, 45, 32, cb, 41, 32, 60, 61, 32, ct, 32, 42, 32, 97, 98, 115, 40, ca, 41, 32, 111, 114, 32, 97, 98, 115, 40, ca] : List Int32).getD i 0)) ∧ Sb Z h321 x305 t317 k317 34 33 g := ⟨_, own_ap1 (cs := [97, 98, 115, 40, ca, 32, 45, 32, cb, 41, 32, 60, 61, 32, ct, 32, 42, 32, 97, 98, 115, 40, ca, 41, 32, 111, 114, 32, 97, 98, 115, 40]) (ds := [ca]) rfl rfl hg320, B321⟩
  refine P321.ldcA (pc1 := 54) (text := " - ") (wd hw (k := 130) rfl) I319_y310 d14_52 rfl ?_
  show W.Go p.tables e below _ (T321.setTop (mkF m 54 #[.val (.ref e9), .val (.ref sa), .val (.ref sb), .val (.ref st), .unset] [(.ref y310), (.ref x305)]))
  refine P321.callV (pc1 := 57) B321.1 (wd hw (k := 83) rfl) (wd hw (k := 84) rfl) (wd hw (k := 86) rfl) (wd hw (k := 85) rfl) (notFace_of_selects (args := #[]) (mvT P321.hz (wd hw (k := 86) rfl))) (by decide) (W.MetN.pay (W := 0) (c_sappg l Z a0 hw x305 t317 k317 34 33 g321 y310 t310 k310 3 (fun i => ([32, 45, 32] : List Int32).getD i 0) h321 B321 (L321_y310) 70 (by decide) (by decide) (by decide) nx317_y310.1 nx317_y310.2.1 hzx305 (P321.extZ EZ all0) zc fm US) P321 (wd hw (k := 87) rfl) (wd hw (k := 64) rfl) (by decide) (by decide)) (argsL := [(.ref y310)]) (st0 := []) (lenOf pd_Ljava_lang_String_R_Ljava_lang_StringBuilder rfl) rfl rfl (Nat.le_of_eq rfl) (by rw [hml]; rfl) (by decide) (by decide) (fun _ _ _ q => ⟨q.2.1.up P321.sz (allS (Or.inr hx305) all0), CHr.keep q.2.2.1 (sfS Sx321 sf0) P321.chv⟩) d14_54 rfl ?_
  intro v322 T322 h322 L322 q322 P322
  obtain ⟨rfl, f322, K322, t322, k322, n322, B322⟩ := q322
  show W.Go p.tables e below _ (T322.setTop (mkF m 57 #[.val (.ref e9), .val (.ref sa), .val (.ref sb), .val (.ref st), .unset] [(.ref x305)]))
  have Sx322 : Safe Z ownEL _ h322 x305 := Safe.keep K322 (sfS Sx321 sf0) P321.chv Sx321
  have St322 : Safe Z ownEL _ h322 t322 := Safe.keep K322 (sfS Sx321 sf0) P321.chv (Safe.new n322)
  have ht322 : h0.size ≤ t322 := Nat.le_trans P321.sz n322
  have nx322_y307 : ¬ y307 = x305 ∧ ¬ t307 = x305 ∧ ¬ y307 = t322 ∧ ¬ t307 = t322 := ⟨nx317_y307.1, nx317_y307.2.1, Nat.ne_of_lt (Nat.lt_of_lt_of_le L321_y307.1.lt n322), Nat.ne_of_lt (Nat.lt_of_lt_of_le L321_y307.2.2.2.1.lt n322)⟩
  have L322_y307 := L321_y307.keep K322 (ninS nx317_y307.1 nin0) (ninS nx317_y307.2.1 nin0)
  have nx322_y310 : ¬ y310 = x305 ∧ ¬ t310 = x305 ∧ ¬ y310 = t322 ∧ ¬ t310 = t322 := ⟨nx317_y310.1, nx317_y310.2.1, Nat.ne_of_lt (Nat.lt_of_lt_of_le L321_y310.1.lt n322), Nat.ne_of_lt (Nat.lt_of_lt_of_le L321_y310.2.2.2.1.lt n322)⟩
  have L322_y310 := L321_y310.keep K322 (ninS nx317_y310.1 nin0) (ninS nx317_y310.2.1 nin0)
  have nx322_y313 : ¬ y313 = x305 ∧ ¬ t313 = x305 ∧ ¬ y313 = t322 ∧ ¬ t313 = t322 := ⟨nx317_y313.1, nx317_y313.2.1, Nat.ne_of_lt (Nat.lt_of_lt_of_le L321_y313.1.lt n322), Nat.ne_of_lt (Nat.lt_of_lt_of_le L321_y313.2.2.2.1.lt n322)⟩
  have L322_y313 := L321_y313.keep K322 (ninS nx317_y313.1 nin0) (ninS nx317_y313.2.1 nin0)
  have nx322_y316 : ¬ y316 = x305 ∧ ¬ t316 = x305 ∧ ¬ y316 = t322 ∧ ¬ t316 = t322 := ⟨nx317_y316.1, nx317_y316.2.1, Nat.ne_of_lt (Nat.lt_of_lt_of_le L321_y316.1.lt n322), Nat.ne_of_lt (Nat.lt_of_lt_of_le L321_y316.2.2.2.1.lt n322)⟩
  have L322_y316 := L321_y316.keep K322 (ninS nx317_y316.1 nin0) (ninS nx317_y316.2.1 nin0)
  have nx322_y319 : ¬ y319 = x305 ∧ ¬ t319 = x305 ∧ ¬ y319 = t322 ∧ ¬ t319 = t322 := ⟨nx319_y319.1, nx319_y319.2.1, Nat.ne_of_lt (Nat.lt_of_lt_of_le L321_y319.1.lt n322), Nat.ne_of_lt (Nat.lt_of_lt_of_le L321_y319.2.2.2.1.lt n322)⟩
  have L322_y319 := L321_y319.keep K322 (ninS nx319_y319.1 nin0) (ninS nx319_y319.2.1 nin0)
  obtain ⟨g322, hg322, B322⟩ : ∃ g : Nat → Int32, (∀ i, i < 36 → g i = StrChars.lo8 (([97, 98, 115, 40, ca, 32, 45, 32, cb, 41, 32, 60, 61, 32, ct, 32, 42, 32, 97, 98, 115, 40, ca, 41, 32, 111, 114, 32, 97, 98, 115, 40, ca, 32, 45, 32] : List Int32).getD i 0)) ∧ Sb Z h322 x305 t322 k322 70 36 g := ⟨_, own_ap1 (cs := [97, 98, 115, 40, ca, 32, 45, 32, cb, 41, 32, 60, 61, 32, ct, 32, 42, 32, 97, 98, 115, 40, ca, 41, 32, 111, 114, 32, 97, 98, 115, 40, ca]) (ds := [32, 45, 32]) rfl rfl (own_ap2 (cnt := 33) (by decide) hg321), B322⟩
  refine W.g_aloadN (pc1 := 58) P322.q d14_57 rfl rfl rfl ?_
  refine P322.callV (pc1 := 61) B322.1 (wd hw (k := 83) rfl) (wd hw (k := 84) rfl) (wd hw (k := 86) rfl) (wd hw (k := 85) rfl) (notFace_of_selects (args := #[]) (mvT P322.hz (wd hw (k := 86) rfl))) (by decide) (W.MetN.pay (W := 0) (c_sapp l Z a0 hw x305 t322 k322 70 36 g322 sb tb kb 1 (fun i => ([cb] : List Int32).getD i 0) h322 B322 (Lb.ext P322.ext0) (by decide) (P322.extZ EZ all0) zc fm US) P322 (wd hw (k := 87) rfl) (wd hw (k := 64) rfl) (by decide) (by decide)) (argsL := [(.ref sb)]) (st0 := []) (lenOf pd_Ljava_lang_String_R_Ljava_lang_StringBuilder rfl) rfl rfl (Nat.le_of_eq rfl) (by rw [hml]; rfl) (by decide) (by decide) (fun _ _ _ q => ⟨q.2.1.up P322.sz (allS (Or.inr hx305) (allS (Or.inr ht322) all0)), CHr.keep q.2.2.1 (sfS Sx322 (sfS St322 sf0)) P322.chv⟩) d14_58 rfl ?_
  intro v323 T323 h323 L323 q323 P323
  obtain ⟨rfl, f323, K323, B323⟩ := q323
  show W.Go p.tables e below _ (T323.setTop (mkF m 61 #[.val (.ref e9), .val (.ref sa), .val (.ref sb), .val (.ref st), .unset] [(.ref x305)]))
  have Sx323 : Safe Z ownEL _ h323 x305 := Safe.keep K323 (sfS Sx322 (sfS St322 sf0)) P322.chv Sx322
  have St323 : Safe Z ownEL _ h323 t322 := Safe.keep K323 (sfS Sx322 (sfS St322 sf0)) P322.chv St322
  have L323_y307 := L322_y307.keep K323 (ninS nx322_y307.1 (ninS nx322_y307.2.2.1 nin0)) (ninS nx322_y307.2.1 (ninS nx322_y307.2.2.2 nin0))
  have L323_y310 := L322_y310.keep K323 (ninS nx322_y310.1 (ninS nx322_y310.2.2.1 nin0)) (ninS nx322_y310.2.1 (ninS nx322_y310.2.2.2 nin0))
  have L323_y313 := L322_y313.keep K323 (ninS nx322_y313.1 (ninS nx322_y313.2.2.1 nin0)) (ninS nx322_y313.2.1 (ninS nx322_y313.2.2.2 nin0))
  have L323_y316 := L322_y316.keep K323 (ninS nx322_y316.1 (ninS nx322_y316.2.2.1 nin0)) (ninS nx322_y316.2.1 (ninS nx322_y316.2.2.2 nin0))
  have L323_y319 := L322_y319.keep K323 (ninS nx322_y319.1 (ninS nx322_y319.2.2.1 nin0)) (ninS nx322_y319.2.1 (ninS nx322_y319.2.2.2 nin0))
  obtain ⟨g323, hg323, B323⟩ : ∃ g : Nat → Int32, (∀ i, i < 37 → g i = StrChars.lo8 (([97, 98, 115, 40, ca, 32, 45, 32, cb, 41, 32, 60, 61, 32, ct, 32, 42, 32, 97, 98, 115, 40, ca, 41, 32, 111, 114, 32, 97, 98, 115, 40, ca, 32, 45, 32, cb] : List Int32).getD i 0)) ∧ Sb Z h323 x305 t322 k322 70 37 g := ⟨_, own_ap1 (cs := [97, 98, 115, 40, ca, 32, 45, 32, cb, 41, 32, 60, 61, 32, ct, 32, 42, 32, 97, 98, 115, 40, ca, 41, 32, 111, 114, 32, 97, 98, 115, 40, ca, 32, 45, 32]) (ds := [cb]) rfl rfl hg322, B323⟩
  refine P323.ldcA (pc1 := 63) (text := ") <= ") (wd hw (k := 131) rfl) I319_y313 d14_61 rfl ?_
  show W.Go p.tables e below _ (T323.setTop (mkF m 63 #[.val (.ref e9), .val (.ref sa), .val (.ref sb), .val (.ref st), .unset] [(.ref y313), (.ref x305)]))
  refine P323.callV (pc1 := 66) B323.1 (wd hw (k := 83) rfl) (wd hw (k := 84) rfl) (wd hw (k := 86) rfl) (wd hw (k := 85) rfl) (notFace_of_selects (args := #[]) (mvT P323.hz (wd hw (k := 86) rfl))) (by decide) (W.MetN.pay (W := 0) (c_sapp l Z a0 hw x305 t322 k322 70 37 g323 y313 t313 k313 5 (fun i => ([41, 32, 60, 61, 32] : List Int32).getD i 0) h323 B323 (L323_y313) (by decide) (P323.extZ EZ all0) zc fm US) P323 (wd hw (k := 87) rfl) (wd hw (k := 64) rfl) (by decide) (by decide)) (argsL := [(.ref y313)]) (st0 := []) (lenOf pd_Ljava_lang_String_R_Ljava_lang_StringBuilder rfl) rfl rfl (Nat.le_of_eq rfl) (by rw [hml]; rfl) (by decide) (by decide) (fun _ _ _ q => ⟨q.2.1.up P323.sz (allS (Or.inr hx305) (allS (Or.inr ht322) all0)), CHr.keep q.2.2.1 (sfS Sx323 (sfS St323 sf0)) P323.chv⟩) d14_63 rfl ?_
  intro v324 T324 h324 L324 q324 P324
  obtain ⟨rfl, f324, K324, B324⟩ := q324
  show W.Go p.tables e below _ (T324.setTop (mkF m 66 #[.val (.ref e9), .val (.ref sa), .val (.ref sb), .val (.ref st), .unset] [(.ref x305)]))
  have Sx324 : Safe Z ownEL _ h324 x305 := Safe.keep K324 (sfS Sx323 (sfS St323 sf0)) P323.chv Sx323
  have St324 : Safe Z ownEL _ h324 t322 := Safe.keep K324 (sfS Sx323 (sfS St323 sf0)) P323.chv St323
  have L324_y307 := L323_y307.keep K324 (ninS nx322_y307.1 (ninS nx322_y307.2.2.1 nin0)) (ninS nx322_y307.2.1 (ninS nx322_y307.2.2.2 nin0))
  have L324_y310 := L323_y310.keep K324 (ninS nx322_y310.1 (ninS nx322_y310.2.2.1 nin0)) (ninS nx322_y310.2.1 (ninS nx322_y310.2.2.2 nin0))
  have L324_y313 := L323_y313.keep K324 (ninS nx322_y313.1 (ninS nx322_y313.2.2.1 nin0)) (ninS nx322_y313.2.1 (ninS nx322_y313.2.2.2 nin0))
  have L324_y316 := L323_y316.keep K324 (ninS nx322_y316.1 (ninS nx322_y316.2.2.1 nin0)) (ninS nx322_y316.2.1 (ninS nx322_y316.2.2.2 nin0))
  have L324_y319 := L323_y319.keep K324 (ninS nx322_y319.1 (ninS nx322_y319.2.2.1 nin0)) (ninS nx322_y319.2.1 (ninS nx322_y319.2.2.2 nin0))
  obtain ⟨g324, hg324, B324⟩ : ∃ g : Nat → Int32, (∀ i, i < 42 → g i = StrChars.lo8 (([97, 98, 115, 40, ca, 32, 45, 32, cb, 41, 32, 60, 61, 32, ct, 32, 42, 32, 97, 98, 115, 40, ca, 41, 32, 111, 114, 32, 97, 98, 115, 40, ca, 32, 45, 32, cb, 41, 32, 60, 61, 32] : List Int32).getD i 0)) ∧ Sb Z h324 x305 t322 k322 70 42 g := ⟨_, own_ap1 (cs := [97, 98, 115, 40, ca, 32, 45, 32, cb, 41, 32, 60, 61, 32, ct, 32, 42, 32, 97, 98, 115, 40, ca, 41, 32, 111, 114, 32, 97, 98, 115, 40, ca, 32, 45, 32, cb]) (ds := [41, 32, 60, 61, 32]) rfl rfl hg323, B324⟩
  refine W.g_aloadN (pc1 := 67) P324.q d14_66 rfl rfl rfl ?_
  refine P324.callV (pc1 := 70) B324.1 (wd hw (k := 83) rfl) (wd hw (k := 84) rfl) (wd hw (k := 86) rfl) (wd hw (k := 85) rfl) (notFace_of_selects (args := #[]) (mvT P324.hz (wd hw (k := 86) rfl))) (by decide) (W.MetN.pay (W := 0) (c_sapp l Z a0 hw x305 t322 k322 70 42 g324 st tt kt 1 (fun i => ([ct] : List Int32).getD i 0) h324 B324 (Lc.ext P324.ext0) (by decide) (P324.extZ EZ all0) zc fm US) P324 (wd hw (k := 87) rfl) (wd hw (k := 64) rfl) (by decide) (by decide)) (argsL := [(.ref st)]) (st0 := []) (lenOf pd_Ljava_lang_String_R_Ljava_lang_StringBuilder rfl) rfl rfl (Nat.le_of_eq rfl) (by rw [hml]; rfl) (by decide) (by decide) (fun _ _ _ q => ⟨q.2.1.up P324.sz (allS (Or.inr hx305) (allS (Or.inr ht322) all0)), CHr.keep q.2.2.1 (sfS Sx324 (sfS St324 sf0)) P324.chv⟩) d14_67 rfl ?_
  intro v325 T325 h325 L325 q325 P325
  obtain ⟨rfl, f325, K325, B325⟩ := q325
  show W.Go p.tables e below _ (T325.setTop (mkF m 70 #[.val (.ref e9), .val (.ref sa), .val (.ref sb), .val (.ref st), .unset] [(.ref x305)]))
  have Sx325 : Safe Z ownEL _ h325 x305 := Safe.keep K325 (sfS Sx324 (sfS St324 sf0)) P324.chv Sx324
  have St325 : Safe Z ownEL _ h325 t322 := Safe.keep K325 (sfS Sx324 (sfS St324 sf0)) P324.chv St324
  have L325_y307 := L324_y307.keep K325 (ninS nx322_y307.1 (ninS nx322_y307.2.2.1 nin0)) (ninS nx322_y307.2.1 (ninS nx322_y307.2.2.2 nin0))
  have L325_y310 := L324_y310.keep K325 (ninS nx322_y310.1 (ninS nx322_y310.2.2.1 nin0)) (ninS nx322_y310.2.1 (ninS nx322_y310.2.2.2 nin0))
  have L325_y313 := L324_y313.keep K325 (ninS nx322_y313.1 (ninS nx322_y313.2.2.1 nin0)) (ninS nx322_y313.2.1 (ninS nx322_y313.2.2.2 nin0))
  have L325_y316 := L324_y316.keep K325 (ninS nx322_y316.1 (ninS nx322_y316.2.2.1 nin0)) (ninS nx322_y316.2.1 (ninS nx322_y316.2.2.2 nin0))
  have L325_y319 := L324_y319.keep K325 (ninS nx322_y319.1 (ninS nx322_y319.2.2.1 nin0)) (ninS nx322_y319.2.1 (ninS nx322_y319.2.2.2 nin0))
  obtain ⟨g325, hg325, B325⟩ : ∃ g : Nat → Int32, (∀ i, i < 43 → g i = StrChars.lo8 (([97, 98, 115, 40, ca, 32, 45, 32, cb, 41, 32, 60, 61, 32, ct, 32, 42, 32, 97, 98, 115, 40, ca, 41, 32, 111, 114, 32, 97, 98, 115, 40, ca, 32, 45, 32, cb, 41, 32, 60, 61, 32, ct] : List Int32).getD i 0)) ∧ Sb Z h325 x305 t322 k322 70 43 g := ⟨_, own_ap1 (cs := [97, 98, 115, 40, ca, 32, 45, 32, cb, 41, 32, 60, 61, 32, ct, 32, 42, 32, 97, 98, 115, 40, ca, 41, 32, 111, 114, 32, 97, 98, 115, 40, ca, 32, 45, 32, cb, 41, 32, 60, 61, 32]) (ds := [ct]) rfl rfl hg324, B325⟩
  refine P325.ldcA (pc1 := 72) (text := " * abs(") (wd hw (k := 132) rfl) I319_y316 d14_70 rfl ?_
  show W.Go p.tables e below _ (T325.setTop (mkF m 72 #[.val (.ref e9), .val (.ref sa), .val (.ref sb), .val (.ref st), .unset] [(.ref y316), (.ref x305)]))
  refine P325.callV (pc1 := 75) B325.1 (wd hw (k := 83) rfl) (wd hw (k := 84) rfl) (wd hw (k := 86) rfl) (wd hw (k := 85) rfl) (notFace_of_selects (args := #[]) (mvT P325.hz (wd hw (k := 86) rfl))) (by decide) (W.MetN.pay (W := 0) (c_sapp l Z a0 hw x305 t322 k322 70 43 g325 y316 t316 k316 7 (fun i => ([32, 42, 32, 97, 98, 115, 40] : List Int32).getD i 0) h325 B325 (L325_y316) (by decide) (P325.extZ EZ all0) zc fm US) P325 (wd hw (k := 87) rfl) (wd hw (k := 64) rfl) (by decide) (by decide)) (argsL := [(.ref y316)]) (st0 := []) (lenOf pd_Ljava_lang_String_R_Ljava_lang_StringBuilder rfl) rfl rfl (Nat.le_of_eq rfl) (by rw [hml]; rfl) (by decide) (by decide) (fun _ _ _ q => ⟨q.2.1.up P325.sz (allS (Or.inr hx305) (allS (Or.inr ht322) all0)), CHr.keep q.2.2.1 (sfS Sx325 (sfS St325 sf0)) P325.chv⟩) d14_72 rfl ?_
  intro v326 T326 h326 L326 q326 P326
  obtain ⟨rfl, f326, K326, B326⟩ := q326
  show W.Go p.tables e below _ (T326.setTop (mkF m 75 #[.val (.ref e9), .val (.ref sa), .val (.ref sb), .val (.ref st), .unset] [(.ref x305)]))
  have Sx326 : Safe Z ownEL _ h326 x305 := Safe.keep K326 (sfS Sx325 (sfS St325 sf0)) P325.chv Sx325
  have St326 : Safe Z ownEL _ h326 t322 := Safe.keep K326 (sfS Sx325 (sfS St325 sf0)) P325.chv St325
  have L326_y307 := L325_y307.keep K326 (ninS nx322_y307.1 (ninS nx322_y307.2.2.1 nin0)) (ninS nx322_y307.2.1 (ninS nx322_y307.2.2.2 nin0))
  have L326_y310 := L325_y310.keep K326 (ninS nx322_y310.1 (ninS nx322_y310.2.2.1 nin0)) (ninS nx322_y310.2.1 (ninS nx322_y310.2.2.2 nin0))
  have L326_y313 := L325_y313.keep K326 (ninS nx322_y313.1 (ninS nx322_y313.2.2.1 nin0)) (ninS nx322_y313.2.1 (ninS nx322_y313.2.2.2 nin0))
  have L326_y316 := L325_y316.keep K326 (ninS nx322_y316.1 (ninS nx322_y316.2.2.1 nin0)) (ninS nx322_y316.2.1 (ninS nx322_y316.2.2.2 nin0))
  have L326_y319 := L325_y319.keep K326 (ninS nx322_y319.1 (ninS nx322_y319.2.2.1 nin0)) (ninS nx322_y319.2.1 (ninS nx322_y319.2.2.2 nin0))
  obtain ⟨g326, hg326, B326⟩ : ∃ g : Nat → Int32, (∀ i, i < 50 → g i = StrChars.lo8 (([97, 98, 115, 40, ca, 32, 45, 32, cb, 41, 32, 60, 61, 32, ct, 32, 42, 32, 97, 98, 115, 40, ca, 41, 32, 111, 114, 32, 97, 98, 115, 40, ca, 32, 45, 32, cb, 41, 32, 60, 61, 32, ct, 32, 42, 32, 97, 98, 115, 40] : List Int32).getD i 0)) ∧ Sb Z h326 x305 t322 k322 70 50 g := ⟨_, own_ap1 (cs := [97, 98, 115, 40, ca, 32, 45, 32, cb, 41, 32, 60, 61, 32, ct, 32, 42, 32, 97, 98, 115, 40, ca, 41, 32, 111, 114, 32, 97, 98, 115, 40, ca, 32, 45, 32, cb, 41, 32, 60, 61, 32, ct]) (ds := [32, 42, 32, 97, 98, 115, 40]) rfl rfl hg325, B326⟩
  refine W.g_aloadN (pc1 := 76) P326.q d14_75 rfl rfl rfl ?_
  refine P326.callV (pc1 := 79) B326.1 (wd hw (k := 83) rfl) (wd hw (k := 84) rfl) (wd hw (k := 86) rfl) (wd hw (k := 85) rfl) (notFace_of_selects (args := #[]) (mvT P326.hz (wd hw (k := 86) rfl))) (by decide) (W.MetN.pay (W := 0) (c_sapp l Z a0 hw x305 t322 k322 70 50 g326 sb tb kb 1 (fun i => ([cb] : List Int32).getD i 0) h326 B326 (Lb.ext P326.ext0) (by decide) (P326.extZ EZ all0) zc fm US) P326 (wd hw (k := 87) rfl) (wd hw (k := 64) rfl) (by decide) (by decide)) (argsL := [(.ref sb)]) (st0 := []) (lenOf pd_Ljava_lang_String_R_Ljava_lang_StringBuilder rfl) rfl rfl (Nat.le_of_eq rfl) (by rw [hml]; rfl) (by decide) (by decide) (fun _ _ _ q => ⟨q.2.1.up P326.sz (allS (Or.inr hx305) (allS (Or.inr ht322) all0)), CHr.keep q.2.2.1 (sfS Sx326 (sfS St326 sf0)) P326.chv⟩) d14_76 rfl ?_
  intro v327 T327 h327 L327 q327 P327
  obtain ⟨rfl, f327, K327, B327⟩ := q327
  show W.Go p.tables e below _ (T327.setTop (mkF m 79 #[.val (.ref e9), .val (.ref sa), .val (.ref sb), .val (.ref st), .unset] [(.ref x305)]))
  have Sx327 : Safe Z ownEL _ h327 x305 := Safe.keep K327 (sfS Sx326 (sfS St326 sf0)) P326.chv Sx326
  have St327 : Safe Z ownEL _ h327 t322 := Safe.keep K327 (sfS Sx326 (sfS St326 sf0)) P326.chv St326
  have L327_y307 := L326_y307.keep K327 (ninS nx322_y307.1 (ninS nx322_y307.2.2.1 nin0)) (ninS nx322_y307.2.1 (ninS nx322_y307.2.2.2 nin0))
  have L327_y310 := L326_y310.keep K327 (ninS nx322_y310.1 (ninS nx322_y310.2.2.1 nin0)) (ninS nx322_y310.2.1 (ninS nx322_y310.2.2.2 nin0))
  have L327_y313 := L326_y313.keep K327 (ninS nx322_y313.1 (ninS nx322_y313.2.2.1 nin0)) (ninS nx322_y313.2.1 (ninS nx322_y313.2.2.2 nin0))
  have L327_y316 := L326_y316.keep K327 (ninS nx322_y316.1 (ninS nx322_y316.2.2.1 nin0)) (ninS nx322_y316.2.1 (ninS nx322_y316.2.2.2 nin0))
  have L327_y319 := L326_y319.keep K327 (ninS nx322_y319.1 (ninS nx322_y319.2.2.1 nin0)) (ninS nx322_y319.2.1 (ninS nx322_y319.2.2.2 nin0))
  obtain ⟨g327, hg327, B327⟩ : ∃ g : Nat → Int32, (∀ i, i < 51 → g i = StrChars.lo8 (([97, 98, 115, 40, ca, 32, 45, 32, cb, 41, 32, 60, 61, 32, ct, 32, 42, 32, 97, 98, 115, 40, ca, 41, 32, 111, 114, 32, 97, 98, 115, 40, ca, 32, 45, 32, cb, 41, 32, 60, 61, 32, ct, 32, 42, 32, 97, 98, 115, 40, cb] : List Int32).getD i 0)) ∧ Sb Z h327 x305 t322 k322 70 51 g := ⟨_, own_ap1 (cs := [97, 98, 115, 40, ca, 32, 45, 32, cb, 41, 32, 60, 61, 32, ct, 32, 42, 32, 97, 98, 115, 40, ca, 41, 32, 111, 114, 32, 97, 98, 115, 40, ca, 32, 45, 32, cb, 41, 32, 60, 61, 32, ct, 32, 42, 32, 97, 98, 115, 40]) (ds := [cb]) rfl rfl hg326, B327⟩
  refine P327.ldcK (pc1 := 81) (n := 4) (vs := [.int 41]) (z := 1) (wd hw (k := 157) rfl) wS hEL (by decide) ⟨by decide, by decide +kernel⟩ (by decide) (by decide) (by decide) (by decide) (by decide) (by decide) d14_79 rfl ?_
  intro y328 T328 h328 t328 k328 P328 E328 R328 A328 C328 F328 V328 N328 I328 M328
  have L328_y307 := L327_y307.ext E328
  have I328_y307 := Lit.stays I319_y307 M328
  have L328_y310 := L327_y310.ext E328
  have I328_y310 := Lit.stays I319_y310 M328
  have L328_y313 := L327_y313.ext E328
  have I328_y313 := Lit.stays I319_y313 M328
  have L328_y316 := L327_y316.ext E328
  have I328_y316 := Lit.stays I319_y316 M328
  have L328_y319 := L327_y319.ext E328
  have I328_y319 := Lit.stays I319 M328
  have LL328 : Lt Z h328 y328 t328 k328 1 (fun i => ([41] : List Int32).getD i 0) := ⟨A328, F328, C328, W.Arg.of 1 V328 rfl (by decide) (fun i hi => match i, hi with | 0, _ => rfl | k + 1, hk => absurd hk (Nat.not_lt.mpr (Nat.le_add_left _ _))), own_byD (cs := [41]) (List.forall_mem_cons.mpr ⟨(own_b 41), (fun c hc => absurd hc (List.not_mem_nil))⟩)⟩
  have B328 := B327.ext E328
  have Sx328 := R328.safe B327.1.lt Sx327
  have St328 := R328.safe B327.2.2.2.2.1.lt St327
  have nx328_y328 : ¬ y328 = x305 ∧ ¬ t328 = x305 ∧ ¬ y328 = t322 ∧ ¬ t328 = t322 := ⟨Ne.symm (N328 _ Sx328).1, Ne.symm (N328 _ Sx328).2, Ne.symm (N328 _ St328).1, Ne.symm (N328 _ St328).2⟩
  refine P328.callV (pc1 := 84) B328.1 (wd hw (k := 83) rfl) (wd hw (k := 84) rfl) (wd hw (k := 86) rfl) (wd hw (k := 85) rfl) (notFace_of_selects (args := #[]) (mvT P328.hz (wd hw (k := 86) rfl))) (by decide) (W.MetN.pay (W := 0) (c_sapp l Z a0 hw x305 t322 k322 70 51 g327 y328 t328 k328 1 (fun i => ([41] : List Int32).getD i 0) h328 B328 (LL328) (by decide) (P328.extZ EZ all0) zc fm US) P328 (wd hw (k := 87) rfl) (wd hw (k := 64) rfl) (by decide) (by decide)) (argsL := [(.ref y328)]) (st0 := []) (lenOf pd_Ljava_lang_String_R_Ljava_lang_StringBuilder rfl) rfl rfl (Nat.le_of_eq rfl) (by rw [hml]; rfl) (by decide) (by decide) (fun _ _ _ q => ⟨q.2.1.up P328.sz (allS (Or.inr hx305) (allS (Or.inr ht322) all0)), CHr.keep q.2.2.1 (sfS Sx328 (sfS St328 sf0)) P328.chv⟩) d14_81 rfl ?_
  intro v329 T329 h329 L329 q329 P329
  obtain ⟨rfl, f329, K329, B329⟩ := q329
  show W.Go p.tables e below _ (T329.setTop (mkF m 84 #[.val (.ref e9), .val (.ref sa), .val (.ref sb), .val (.ref st), .unset] [(.ref x305)]))
  have Sx329 : Safe Z ownEL _ h329 x305 := Safe.keep K329 (sfS Sx328 (sfS St328 sf0)) P328.chv Sx328
  have St329 : Safe Z ownEL _ h329 t322 := Safe.keep K329 (sfS Sx328 (sfS St328 sf0)) P328.chv St328
  have L329_y307 := L328_y307.keep K329 (ninS nx322_y307.1 (ninS nx322_y307.2.2.1 nin0)) (ninS nx322_y307.2.1 (ninS nx322_y307.2.2.2 nin0))
  have L329_y310 := L328_y310.keep K329 (ninS nx322_y310.1 (ninS nx322_y310.2.2.1 nin0)) (ninS nx322_y310.2.1 (ninS nx322_y310.2.2.2 nin0))
  have L329_y313 := L328_y313.keep K329 (ninS nx322_y313.1 (ninS nx322_y313.2.2.1 nin0)) (ninS nx322_y313.2.1 (ninS nx322_y313.2.2.2 nin0))
  have L329_y316 := L328_y316.keep K329 (ninS nx322_y316.1 (ninS nx322_y316.2.2.1 nin0)) (ninS nx322_y316.2.1 (ninS nx322_y316.2.2.2 nin0))
  have L329_y319 := L328_y319.keep K329 (ninS nx322_y319.1 (ninS nx322_y319.2.2.1 nin0)) (ninS nx322_y319.2.1 (ninS nx322_y319.2.2.2 nin0))
  have L329_y328 := LL328.keep K329 (ninS nx328_y328.1 (ninS nx328_y328.2.2.1 nin0)) (ninS nx328_y328.2.1 (ninS nx328_y328.2.2.2 nin0))
  obtain ⟨g329, hg329, B329⟩ : ∃ g : Nat → Int32, (∀ i, i < 52 → g i = StrChars.lo8 (([97, 98, 115, 40, ca, 32, 45, 32, cb, 41, 32, 60, 61, 32, ct, 32, 42, 32, 97, 98, 115, 40, ca, 41, 32, 111, 114, 32, 97, 98, 115, 40, ca, 32, 45, 32, cb, 41, 32, 60, 61, 32, ct, 32, 42, 32, 97, 98, 115, 40, cb, 41] : List Int32).getD i 0)) ∧ Sb Z h329 x305 t322 k322 70 52 g := ⟨_, own_ap1 (cs := [97, 98, 115, 40, ca, 32, 45, 32, cb, 41, 32, 60, 61, 32, ct, 32, 42, 32, 97, 98, 115, 40, ca, 41, 32, 111, 114, 32, 97, 98, 115, 40, ca, 32, 45, 32, cb, 41, 32, 60, 61, 32, ct, 32, 42, 32, 97, 98, 115, 40, cb]) (ds := [41]) rfl rfl hg327, B329⟩
  refine P329.callV (pc1 := 87) B329.1 (wd hw (k := 158) rfl) (wd hw (k := 159) rfl) (wd hw (k := 161) rfl) (wd hw (k := 160) rfl) (notFace_of_selects (args := #[]) (mvT P329.hz (wd hw (k := 161) rfl))) (by decide) (W.MetN.pay (W := 0) (c_tos l Z a0 hw x305 t322 k322 70 52 g329 (by decide) (by decide) h329 B329 (P329.extZ EZ all0) zc fm US) P329 (wd hw (k := 162) rfl) (wd hw (k := 64) rfl) (by decide) (by decide)) (argsL := []) (st0 := []) (lenOf pd__R_Ljava_lang_String rfl) rfl rfl (Nat.le_of_eq rfl) (by rw [hml]; rfl) (by decide) (by decide) (fun _ _ _ q => by obtain ⟨_, _, _, _, q2, q3, _⟩ := q; exact ⟨q2.up P329.sz all0, CHr.ext q3 P329.chv⟩) d14_84 rfl ?_
  intro v330 T330 h330 L330 q330 P330
  obtain ⟨y330, a330, k330, rfl, f330, E330, A330, F330, C330, G330⟩ := q330
  show W.Go p.tables e below _ (T330.setTop (mkF m 87 #[.val (.ref e9), .val (.ref sa), .val (.ref sb), .val (.ref st), .unset] [(.ref y330)]))
  have L330_y307 := L329_y307.ext E330
  have L330_y310 := L329_y310.ext E330
  have L330_y313 := L329_y313.ext E330
  have L330_y316 := L329_y316.ext E330
  have L330_y319 := L329_y319.ext E330
  have L330_y328 := L329_y328.ext E330
  have S4 : W.Str Z h330 y330 (own_E0 ca cb ct) := own_toStr A330 F330 C330 G330 rfl (by decide) (fun i hi => hg329 i hi) (own_Eb0 ca cb ct ba bb bt)
  have L4 : Lt Z h330 y330 a330 k330 52 (fun i => (own_E0 ca cb ct).getD i 0) := ⟨A330, F330, C330, G330.congr (fun i hi => hg329 i hi), own_byD (cs := own_E0 ca cb ct) (own_Eb0 ca cb ct ba bb bt)⟩
  refine W.g_astore (pc1 := 89) (ls2 := #[.val (.ref e9), .val (.ref sa), .val (.ref sb), .val (.ref st), .val (.ref y330)]) P330.q d14_87 rfl rfl rfl ?_
  refine W.g_aloadN (pc1 := 90) P330.q d14_89 rfl rfl rfl ?_
  refine P330.callVU (pc1 := 93) (owner := "java/lang/Enum") (Ee.ext P330.ext0) (wd hw (k := 197) rfl) (wd hw (k := 198) rfl) (wd hw (k := 199) rfl) (by decide) (wd hw (k := 201) rfl) (wd hw (k := 200) rfl) (W.MetN.pay (W := 0) (c_ord l Z a0 hw e9 j h330 (Oe.ext P330.ext0)) P330 (wd hw (k := 203) rfl) (wd hw (k := 202) rfl) (by decide) (by decide)) (argsL := []) (st0 := []) (lenOf pd__R_I rfl) rfl rfl (Nat.le_of_eq rfl) (by rw [hml]; rfl) (by decide) (by decide) (W.Pure.ok P330.chv) d14_90 rfl ?_
  intro v331 T331 h331 L331 q331 P331
  obtain ⟨rfl, rfl, rfl⟩ := q331
  show W.Go p.tables e below _ (T331.setTop (mkF m 93 #[.val (.ref e9), .val (.ref sa), .val (.ref sb), .val (.ref st), .val (.ref y330)] [(.int j)]))
  rcases hj with rfl | rfl | rfl | rfl | rfl | rfl
  · show W.Go p.tables e below _ (T331.setTop (mkF m 93 #[.val (.ref e9), .val (.ref sa), .val (.ref sb), .val (.ref st), .val (.ref y330)] [(.int (0 : Int32))]))
    refine W.g_tsw (pc1 := 142) P331.q d14_93 (by decide) rfl (by decide) rfl ?_
    refine W.g_aload (pc1 := 144) P331.q d14_142 rfl rfl rfl ?_
    refine W.g_goto (pc1 := 326) P331.q d14_144 (by decide) rfl ?_
    exact P331.retAW hEL hlk hret rfl rfl rfl d14_326 (by decide) (by decide) ⟨y330, rfl, P331.fr, P331.ext0, S4⟩
  · show W.Go p.tables e below _ (T331.setTop (mkF m 93 #[.val (.ref e9), .val (.ref sa), .val (.ref sb), .val (.ref st), .val (.ref y330)] [(.int (1 : Int32))]))
    refine W.g_tsw (pc1 := 147) P331.q d14_93 (by decide) rfl (by decide) rfl ?_
    refine P331.newO (pc1 := 150) (wd hw (k := 62) rfl) (wd hw (k := 63) rfl) (wd hw (k := 64) rfl) (by decide) (by decide) d14_147 rfl ?_
    intro T332 h332 x332 g332 P332 E332 A332 D332 U332
    refine W.g_dup (pc1 := 151) P332.q d14_150 rfl rfl ?_
    have Fvalue332 : Fld Z h332 x332 "java/lang/AbstractStringBuilder" "value" "[B" .null := D332 (Or.inl (wd hw (k := 77) rfl)) (ty := .array .byte) (by decide)
    have Fcoder332 : Fld Z h332 x332 "java/lang/AbstractStringBuilder" "coder" "B" (.int 0) := D332 (Or.inl (wd hw (k := 79) rfl)) (ty := .byte) (by decide)
    have Fcount332 : Fld Z h332 x332 "java/lang/AbstractStringBuilder" "count" "I" (.int 0) := D332 (Or.inl (wd hw (k := 104) rfl)) (ty := .int) (by decide)
    have hx332 : h0.size ≤ x332 := by rw [g332]; exact P331.sz
    have hzx332 : Z.heap.size ≤ x332 := Nat.le_trans EZ.1 hx332
    have Sx332 : Safe Z ownEL _ h332 x332 := Safe.exa P332.al A332 (by decide) (by decide)
    refine P332.callN (pc1 := 154) rfl (wd hw (k := 65) rfl) (wd hw (k := 66) rfl) (wd hw (k := 67) rfl) (by decide) (W.MetN.pay (W := 1) (c_sini l Z a0 hw x332 h332 A332 _ _ Fvalue332 Fcoder332 Fcount332 (P332.extZ EZ all0) zc fm US) P332 (wd hw (k := 67) rfl) (wd hw (k := 64) rfl) (by decide) (by decide)) (argsL := []) (st0 := [(.ref x332)]) (lenOf pd__R_V rfl) rfl rfl (Nat.le_of_eq rfl) (by rw [hml]; rfl) (by decide) (by decide) (fun _ _ _ q => ⟨q.2.1.up P332.sz (allS (Or.inr hx332) all0), CHr.keep q.2.2.1 (sfS Sx332 sf0) P332.chv⟩) d14_151 rfl ?_
    intro v333 T333 h333 L333 q333 P333
    obtain ⟨rfl, f333, K333, t333, k333, n333, B333⟩ := q333
    show W.Go p.tables e below _ (T333.setTop (mkF m 154 #[.val (.ref e9), .val (.ref sa), .val (.ref sb), .val (.ref st), .val (.ref y330)] [(.ref x332)]))
    have EB333 := W.Ext.keepNew E332 K333 (allS (Nat.le_of_eq g332.symm) all0)
    have Sx333 : Safe Z ownEL _ h333 x332 := Safe.keep K333 (sfS Sx332 sf0) P332.chv Sx332
    have St333 : Safe Z ownEL _ h333 t333 := Safe.keep K333 (sfS Sx332 sf0) P332.chv (Safe.new n333)
    have ht333 : h0.size ≤ t333 := Nat.le_trans P332.sz n333
    obtain ⟨g333, hg333, B333⟩ : ∃ g : Nat → Int32, (∀ i, i < 0 → g i = StrChars.lo8 (([] : List Int32).getD i 0)) ∧ Sb Z h333 x332 t333 k333 16 0 g := ⟨_, fun i hi => absurd hi (Nat.not_lt_zero i), B333⟩
    have L333_y307 := L330_y307.ext EB333
    have nx333_y307 : ¬ y307 = x332 ∧ ¬ t307 = x332 ∧ ¬ y307 = t333 ∧ ¬ t307 = t333 := by
      have q1 := L330_y307.1.lt
      have q2 := L330_y307.2.2.2.1.lt
      have q3 := E332.1
      exact ⟨Nat.ne_of_lt (by rw [g332]; exact q1), Nat.ne_of_lt (by rw [g332]; exact q2), Nat.ne_of_lt (Nat.lt_of_lt_of_le q1 (Nat.le_trans q3 n333)), Nat.ne_of_lt (Nat.lt_of_lt_of_le q2 (Nat.le_trans q3 n333))⟩
    have L333_y310 := L330_y310.ext EB333
    have nx333_y310 : ¬ y310 = x332 ∧ ¬ t310 = x332 ∧ ¬ y310 = t333 ∧ ¬ t310 = t333 := by
      have q1 := L330_y310.1.lt
      have q2 := L330_y310.2.2.2.1.lt
      have q3 := E332.1
      exact ⟨Nat.ne_of_lt (by rw [g332]; exact q1), Nat.ne_of_lt (by rw [g332]; exact q2), Nat.ne_of_lt (Nat.lt_of_lt_of_le q1 (Nat.le_trans q3 n333)), Nat.ne_of_lt (Nat.lt_of_lt_of_le q2 (Nat.le_trans q3 n333))⟩
    have L333_y313 := L330_y313.ext EB333
    have nx333_y313 : ¬ y313 = x332 ∧ ¬ t313 = x332 ∧ ¬ y313 = t333 ∧ ¬ t313 = t333 := by
      have q1 := L330_y313.1.lt
      have q2 := L330_y313.2.2.2.1.lt
      have q3 := E332.1
      exact ⟨Nat.ne_of_lt (by rw [g332]; exact q1), Nat.ne_of_lt (by rw [g332]; exact q2), Nat.ne_of_lt (Nat.lt_of_lt_of_le q1 (Nat.le_trans q3 n333)), Nat.ne_of_lt (Nat.lt_of_lt_of_le q2 (Nat.le_trans q3 n333))⟩
    have L333_y316 := L330_y316.ext EB333
    have nx333_y316 : ¬ y316 = x332 ∧ ¬ t316 = x332 ∧ ¬ y316 = t333 ∧ ¬ t316 = t333 := by
      have q1 := L330_y316.1.lt
      have q2 := L330_y316.2.2.2.1.lt
      have q3 := E332.1
      exact ⟨Nat.ne_of_lt (by rw [g332]; exact q1), Nat.ne_of_lt (by rw [g332]; exact q2), Nat.ne_of_lt (Nat.lt_of_lt_of_le q1 (Nat.le_trans q3 n333)), Nat.ne_of_lt (Nat.lt_of_lt_of_le q2 (Nat.le_trans q3 n333))⟩
    have L333_y319 := L330_y319.ext EB333
    have nx333_y319 : ¬ y319 = x332 ∧ ¬ t319 = x332 ∧ ¬ y319 = t333 ∧ ¬ t319 = t333 := by
      have q1 := L330_y319.1.lt
      have q2 := L330_y319.2.2.2.1.lt
      have q3 := E332.1
      exact ⟨Nat.ne_of_lt (by rw [g332]; exact q1), Nat.ne_of_lt (by rw [g332]; exact q2), Nat.ne_of_lt (Nat.lt_of_lt_of_le q1 (Nat.le_trans q3 n333)), Nat.ne_of_lt (Nat.lt_of_lt_of_le q2 (Nat.le_trans q3 n333))⟩
    have L333_y328 := L330_y328.ext EB333
    have nx333_y328 : ¬ y328 = x332 ∧ ¬ t328 = x332 ∧ ¬ y328 = t333 ∧ ¬ t328 = t333 := by
      have q1 := L330_y328.1.lt
      have q2 := L330_y328.2.2.2.1.lt
      have q3 := E332.1
      exact ⟨Nat.ne_of_lt (by rw [g332]; exact q1), Nat.ne_of_lt (by rw [g332]; exact q2), Nat.ne_of_lt (Nat.lt_of_lt_of_le q1 (Nat.le_trans q3 n333)), Nat.ne_of_lt (Nat.lt_of_lt_of_le q2 (Nat.le_trans q3 n333))⟩
    have L333_y330 := L4.ext EB333
    have nx333_y330 : ¬ y330 = x332 ∧ ¬ a330 = x332 ∧ ¬ y330 = t333 ∧ ¬ a330 = t333 := by
      have q1 := L4.1.lt
      have q2 := L4.2.2.2.1.lt
      have q3 := E332.1
      exact ⟨Nat.ne_of_lt (by rw [g332]; exact q1), Nat.ne_of_lt (by rw [g332]; exact q2), Nat.ne_of_lt (Nat.lt_of_lt_of_le q1 (Nat.le_trans q3 n333)), Nat.ne_of_lt (Nat.lt_of_lt_of_le q2 (Nat.le_trans q3 n333))⟩
    refine P333.ldcK (pc1 := 156) (n := 20) (vs := [.int 110, .int 111, .int 116, .int 32, .int 40]) (z := 5) (wd hw (k := 216) rfl) wS hEL (by decide) ⟨by decide, by decide +kernel⟩ (by decide) (by decide) (by decide) (by decide) (by decide) (by decide) d14_154 rfl ?_
    intro y334 T334 h334 t334 k334 P334 E334 R334 A334 C334 F334 V334 N334 I334 M334
    have L334_y307 := L333_y307.ext E334
    have I334_y307 := Lit.stays I328_y307 M334
    have L334_y310 := L333_y310.ext E334
    have I334_y310 := Lit.stays I328_y310 M334
    have L334_y313 := L333_y313.ext E334
    have I334_y313 := Lit.stays I328_y313 M334
    have L334_y316 := L333_y316.ext E334
    have I334_y316 := Lit.stays I328_y316 M334
    have L334_y319 := L333_y319.ext E334
    have I334_y319 := Lit.stays I328_y319 M334
    have L334_y328 := L333_y328.ext E334
    have I334_y328 := Lit.stays I328 M334
    have L334_y330 := L333_y330.ext E334
    have LL334 : Lt Z h334 y334 t334 k334 5 (fun i => ([110, 111, 116, 32, 40] : List Int32).getD i 0) := ⟨A334, F334, C334, W.Arg.of 5 V334 rfl (by decide) (fun i hi => match i, hi with | 0, _ => rfl | 1, _ => rfl | 2, _ => rfl | 3, _ => rfl | 4, _ => rfl | k + 5, hk => absurd hk (Nat.not_lt.mpr (Nat.le_add_left _ _))), own_byD (cs := [110, 111, 116, 32, 40]) (List.forall_mem_cons.mpr ⟨(own_b 110), (List.forall_mem_cons.mpr ⟨(own_b 111), (List.forall_mem_cons.mpr ⟨(own_b 116), (List.forall_mem_cons.mpr ⟨(own_b 32), (List.forall_mem_cons.mpr ⟨(own_b 40), (fun c hc => absurd hc (List.not_mem_nil))⟩)⟩)⟩)⟩)⟩)⟩
    have B334 := B333.ext E334
    have Sx334 := R334.safe B333.1.lt Sx333
    have St334 := R334.safe B333.2.2.2.2.1.lt St333
    have nx334_y334 : ¬ y334 = x332 ∧ ¬ t334 = x332 ∧ ¬ y334 = t333 ∧ ¬ t334 = t333 := ⟨Ne.symm (N334 _ Sx334).1, Ne.symm (N334 _ Sx334).2, Ne.symm (N334 _ St334).1, Ne.symm (N334 _ St334).2⟩
    refine P334.callV (pc1 := 159) B334.1 (wd hw (k := 83) rfl) (wd hw (k := 84) rfl) (wd hw (k := 86) rfl) (wd hw (k := 85) rfl) (notFace_of_selects (args := #[]) (mvT P334.hz (wd hw (k := 86) rfl))) (by decide) (W.MetN.pay (W := 0) (c_sapp l Z a0 hw x332 t333 k333 16 0 g333 y334 t334 k334 5 (fun i => ([110, 111, 116, 32, 40] : List Int32).getD i 0) h334 B334 (LL334) (by decide) (P334.extZ EZ all0) zc fm US) P334 (wd hw (k := 87) rfl) (wd hw (k := 64) rfl) (by decide) (by decide)) (argsL := [(.ref y334)]) (st0 := []) (lenOf pd_Ljava_lang_String_R_Ljava_lang_StringBuilder rfl) rfl rfl (Nat.le_of_eq rfl) (by rw [hml]; rfl) (by decide) (by decide) (fun _ _ _ q => ⟨q.2.1.up P334.sz (allS (Or.inr hx332) (allS (Or.inr ht333) all0)), CHr.keep q.2.2.1 (sfS Sx334 (sfS St334 sf0)) P334.chv⟩) d14_156 rfl ?_
    intro v335 T335 h335 L335 q335 P335
    obtain ⟨rfl, f335, K335, B335⟩ := q335
    show W.Go p.tables e below _ (T335.setTop (mkF m 159 #[.val (.ref e9), .val (.ref sa), .val (.ref sb), .val (.ref st), .val (.ref y330)] [(.ref x332)]))
    have Sx335 : Safe Z ownEL _ h335 x332 := Safe.keep K335 (sfS Sx334 (sfS St334 sf0)) P334.chv Sx334
    have St335 : Safe Z ownEL _ h335 t333 := Safe.keep K335 (sfS Sx334 (sfS St334 sf0)) P334.chv St334
    have L335_y307 := L334_y307.keep K335 (ninS nx333_y307.1 (ninS nx333_y307.2.2.1 nin0)) (ninS nx333_y307.2.1 (ninS nx333_y307.2.2.2 nin0))
    have L335_y310 := L334_y310.keep K335 (ninS nx333_y310.1 (ninS nx333_y310.2.2.1 nin0)) (ninS nx333_y310.2.1 (ninS nx333_y310.2.2.2 nin0))
    have L335_y313 := L334_y313.keep K335 (ninS nx333_y313.1 (ninS nx333_y313.2.2.1 nin0)) (ninS nx333_y313.2.1 (ninS nx333_y313.2.2.2 nin0))
    have L335_y316 := L334_y316.keep K335 (ninS nx333_y316.1 (ninS nx333_y316.2.2.1 nin0)) (ninS nx333_y316.2.1 (ninS nx333_y316.2.2.2 nin0))
    have L335_y319 := L334_y319.keep K335 (ninS nx333_y319.1 (ninS nx333_y319.2.2.1 nin0)) (ninS nx333_y319.2.1 (ninS nx333_y319.2.2.2 nin0))
    have L335_y328 := L334_y328.keep K335 (ninS nx333_y328.1 (ninS nx333_y328.2.2.1 nin0)) (ninS nx333_y328.2.1 (ninS nx333_y328.2.2.2 nin0))
    have L335_y330 := L334_y330.keep K335 (ninS nx333_y330.1 (ninS nx333_y330.2.2.1 nin0)) (ninS nx333_y330.2.1 (ninS nx333_y330.2.2.2 nin0))
    have L335_y334 := LL334.keep K335 (ninS nx334_y334.1 (ninS nx334_y334.2.2.1 nin0)) (ninS nx334_y334.2.1 (ninS nx334_y334.2.2.2 nin0))
    obtain ⟨g335, hg335, B335⟩ : ∃ g : Nat → Int32, (∀ i, i < 5 → g i = StrChars.lo8 (([110, 111, 116, 32, 40] : List Int32).getD i 0)) ∧ Sb Z h335 x332 t333 k333 16 5 g := ⟨_, own_ap1 (cs := []) (ds := [110, 111, 116, 32, 40]) rfl rfl hg333, B335⟩
    refine W.g_aload (pc1 := 161) P335.q d14_159 rfl rfl rfl ?_
    refine P335.callV (pc1 := 164) B335.1 (wd hw (k := 83) rfl) (wd hw (k := 84) rfl) (wd hw (k := 86) rfl) (wd hw (k := 85) rfl) (notFace_of_selects (args := #[]) (mvT P335.hz (wd hw (k := 86) rfl))) (by decide) (W.MetN.pay (W := 0) (c_sappg l Z a0 hw x332 t333 k333 16 5 g335 y330 a330 k330 52 (fun i => ([97, 98, 115, 40, ca, 32, 45, 32, cb, 41, 32, 60, 61, 32, ct, 32, 42, 32, 97, 98, 115, 40, ca, 41, 32, 111, 114, 32, 97, 98, 115, 40, ca, 32, 45, 32, cb, 41, 32, 60, 61, 32, ct, 32, 42, 32, 97, 98, 115, 40, cb, 41] : List Int32).getD i 0) h335 B335 (L335_y330) 57 (by decide) (by decide) (by decide) nx333_y330.1 nx333_y330.2.1 hzx332 (P335.extZ EZ all0) zc fm US) P335 (wd hw (k := 87) rfl) (wd hw (k := 64) rfl) (by decide) (by decide)) (argsL := [(.ref y330)]) (st0 := []) (lenOf pd_Ljava_lang_String_R_Ljava_lang_StringBuilder rfl) rfl rfl (Nat.le_of_eq rfl) (by rw [hml]; rfl) (by decide) (by decide) (fun _ _ _ q => ⟨q.2.1.up P335.sz (allS (Or.inr hx332) all0), CHr.keep q.2.2.1 (sfS Sx335 sf0) P335.chv⟩) d14_161 rfl ?_
    intro v336 T336 h336 L336 q336 P336
    obtain ⟨rfl, f336, K336, t336, k336, n336, B336⟩ := q336
    show W.Go p.tables e below _ (T336.setTop (mkF m 164 #[.val (.ref e9), .val (.ref sa), .val (.ref sb), .val (.ref st), .val (.ref y330)] [(.ref x332)]))
    have Sx336 : Safe Z ownEL _ h336 x332 := Safe.keep K336 (sfS Sx335 sf0) P335.chv Sx335
    have St336 : Safe Z ownEL _ h336 t336 := Safe.keep K336 (sfS Sx335 sf0) P335.chv (Safe.new n336)
    have ht336 : h0.size ≤ t336 := Nat.le_trans P335.sz n336
    have nx336_y307 : ¬ y307 = x332 ∧ ¬ t307 = x332 ∧ ¬ y307 = t336 ∧ ¬ t307 = t336 := ⟨nx333_y307.1, nx333_y307.2.1, Nat.ne_of_lt (Nat.lt_of_lt_of_le L335_y307.1.lt n336), Nat.ne_of_lt (Nat.lt_of_lt_of_le L335_y307.2.2.2.1.lt n336)⟩
    have L336_y307 := L335_y307.keep K336 (ninS nx333_y307.1 nin0) (ninS nx333_y307.2.1 nin0)
    have nx336_y310 : ¬ y310 = x332 ∧ ¬ t310 = x332 ∧ ¬ y310 = t336 ∧ ¬ t310 = t336 := ⟨nx333_y310.1, nx333_y310.2.1, Nat.ne_of_lt (Nat.lt_of_lt_of_le L335_y310.1.lt n336), Nat.ne_of_lt (Nat.lt_of_lt_of_le L335_y310.2.2.2.1.lt n336)⟩
    have L336_y310 := L335_y310.keep K336 (ninS nx333_y310.1 nin0) (ninS nx333_y310.2.1 nin0)
    have nx336_y313 : ¬ y313 = x332 ∧ ¬ t313 = x332 ∧ ¬ y313 = t336 ∧ ¬ t313 = t336 := ⟨nx333_y313.1, nx333_y313.2.1, Nat.ne_of_lt (Nat.lt_of_lt_of_le L335_y313.1.lt n336), Nat.ne_of_lt (Nat.lt_of_lt_of_le L335_y313.2.2.2.1.lt n336)⟩
    have L336_y313 := L335_y313.keep K336 (ninS nx333_y313.1 nin0) (ninS nx333_y313.2.1 nin0)
    have nx336_y316 : ¬ y316 = x332 ∧ ¬ t316 = x332 ∧ ¬ y316 = t336 ∧ ¬ t316 = t336 := ⟨nx333_y316.1, nx333_y316.2.1, Nat.ne_of_lt (Nat.lt_of_lt_of_le L335_y316.1.lt n336), Nat.ne_of_lt (Nat.lt_of_lt_of_le L335_y316.2.2.2.1.lt n336)⟩
    have L336_y316 := L335_y316.keep K336 (ninS nx333_y316.1 nin0) (ninS nx333_y316.2.1 nin0)
    have nx336_y319 : ¬ y319 = x332 ∧ ¬ t319 = x332 ∧ ¬ y319 = t336 ∧ ¬ t319 = t336 := ⟨nx333_y319.1, nx333_y319.2.1, Nat.ne_of_lt (Nat.lt_of_lt_of_le L335_y319.1.lt n336), Nat.ne_of_lt (Nat.lt_of_lt_of_le L335_y319.2.2.2.1.lt n336)⟩
    have L336_y319 := L335_y319.keep K336 (ninS nx333_y319.1 nin0) (ninS nx333_y319.2.1 nin0)
    have nx336_y328 : ¬ y328 = x332 ∧ ¬ t328 = x332 ∧ ¬ y328 = t336 ∧ ¬ t328 = t336 := ⟨nx333_y328.1, nx333_y328.2.1, Nat.ne_of_lt (Nat.lt_of_lt_of_le L335_y328.1.lt n336), Nat.ne_of_lt (Nat.lt_of_lt_of_le L335_y328.2.2.2.1.lt n336)⟩
    have L336_y328 := L335_y328.keep K336 (ninS nx333_y328.1 nin0) (ninS nx333_y328.2.1 nin0)
    have nx336_y330 : ¬ y330 = x332 ∧ ¬ a330 = x332 ∧ ¬ y330 = t336 ∧ ¬ a330 = t336 := ⟨nx333_y330.1, nx333_y330.2.1, Nat.ne_of_lt (Nat.lt_of_lt_of_le L335_y330.1.lt n336), Nat.ne_of_lt (Nat.lt_of_lt_of_le L335_y330.2.2.2.1.lt n336)⟩
    have L336_y330 := L335_y330.keep K336 (ninS nx333_y330.1 nin0) (ninS nx333_y330.2.1 nin0)
    have nx336_y334 : ¬ y334 = x332 ∧ ¬ t334 = x332 ∧ ¬ y334 = t336 ∧ ¬ t334 = t336 := ⟨nx334_y334.1, nx334_y334.2.1, Nat.ne_of_lt (Nat.lt_of_lt_of_le L335_y334.1.lt n336), Nat.ne_of_lt (Nat.lt_of_lt_of_le L335_y334.2.2.2.1.lt n336)⟩
    have L336_y334 := L335_y334.keep K336 (ninS nx334_y334.1 nin0) (ninS nx334_y334.2.1 nin0)
    obtain ⟨g336, hg336, B336⟩ : ∃ g : Nat → Int32, (∀ i, i < 57 → g i = StrChars.lo8 (([110, 111, 116, 32, 40, 97, 98, 115, 40, ca, 32, 45, 32, cb, 41, 32, 60, 61, 32, ct, 32, 42, 32, 97, 98, 115, 40, ca, 41, 32, 111, 114, 32, 97, 98, 115, 40, ca, 32, 45, 32, cb, 41, 32, 60, 61, 32, ct, 32, 42, 32, 97, 98, 115, 40, cb, 41] : List Int32).getD i 0)) ∧ Sb Z h336 x332 t336 k336 57 57 g := ⟨_, own_ap1 (cs := [110, 111, 116, 32, 40]) (ds := [97, 98, 115, 40, ca, 32, 45, 32, cb, 41, 32, 60, 61, 32, ct, 32, 42, 32, 97, 98, 115, 40, ca, 41, 32, 111, 114, 32, 97, 98, 115, 40, ca, 32, 45, 32, cb, 41, 32, 60, 61, 32, ct, 32, 42, 32, 97, 98, 115, 40, cb, 41]) rfl rfl (own_ap2 (cnt := 5) (by decide) hg335), B336⟩
    refine P336.ldcA (pc1 := 166) (text := ")") (wd hw (k := 157) rfl) I334_y328 d14_164 rfl ?_
    show W.Go p.tables e below _ (T336.setTop (mkF m 166 #[.val (.ref e9), .val (.ref sa), .val (.ref sb), .val (.ref st), .val (.ref y330)] [(.ref y328), (.ref x332)]))
    refine P336.callV (pc1 := 169) B336.1 (wd hw (k := 83) rfl) (wd hw (k := 84) rfl) (wd hw (k := 86) rfl) (wd hw (k := 85) rfl) (notFace_of_selects (args := #[]) (mvT P336.hz (wd hw (k := 86) rfl))) (by decide) (W.MetN.pay (W := 0) (c_sappg l Z a0 hw x332 t336 k336 57 57 g336 y328 t328 k328 1 (fun i => ([41] : List Int32).getD i 0) h336 B336 (L336_y328) 116 (by decide) (by decide) (by decide) nx336_y328.1 nx336_y328.2.1 hzx332 (P336.extZ EZ all0) zc fm US) P336 (wd hw (k := 87) rfl) (wd hw (k := 64) rfl) (by decide) (by decide)) (argsL := [(.ref y328)]) (st0 := []) (lenOf pd_Ljava_lang_String_R_Ljava_lang_StringBuilder rfl) rfl rfl (Nat.le_of_eq rfl) (by rw [hml]; rfl) (by decide) (by decide) (fun _ _ _ q => ⟨q.2.1.up P336.sz (allS (Or.inr hx332) all0), CHr.keep q.2.2.1 (sfS Sx336 sf0) P336.chv⟩) d14_166 rfl ?_
    intro v337 T337 h337 L337 q337 P337
    obtain ⟨rfl, f337, K337, t337, k337, n337, B337⟩ := q337
    show W.Go p.tables e below _ (T337.setTop (mkF m 169 #[.val (.ref e9), .val (.ref sa), .val (.ref sb), .val (.ref st), .val (.ref y330)] [(.ref x332)]))
    have Sx337 : Safe Z ownEL _ h337 x332 := Safe.keep K337 (sfS Sx336 sf0) P336.chv Sx336
    have St337 : Safe Z ownEL _ h337 t337 := Safe.keep K337 (sfS Sx336 sf0) P336.chv (Safe.new n337)
    have ht337 : h0.size ≤ t337 := Nat.le_trans P336.sz n337
    have nx337_y307 : ¬ y307 = x332 ∧ ¬ t307 = x332 ∧ ¬ y307 = t337 ∧ ¬ t307 = t337 := ⟨nx336_y307.1, nx336_y307.2.1, Nat.ne_of_lt (Nat.lt_of_lt_of_le L336_y307.1.lt n337), Nat.ne_of_lt (Nat.lt_of_lt_of_le L336_y307.2.2.2.1.lt n337)⟩
    have L337_y307 := L336_y307.keep K337 (ninS nx336_y307.1 nin0) (ninS nx336_y307.2.1 nin0)
    have nx337_y310 : ¬ y310 = x332 ∧ ¬ t310 = x332 ∧ ¬ y310 = t337 ∧ ¬ t310 = t337 := ⟨nx336_y310.1, nx336_y310.2.1, Nat.ne_of_lt (Nat.lt_of_lt_of_le L336_y310.1.lt n337), Nat.ne_of_lt (Nat.lt_of_lt_of_le L336_y310.2.2.2.1.lt n337)⟩
    have L337_y310 := L336_y310.keep K337 (ninS nx336_y310.1 nin0) (ninS nx336_y310.2.1 nin0)
    have nx337_y313 : ¬ y313 = x332 ∧ ¬ t313 = x332 ∧ ¬ y313 = t337 ∧ ¬ t313 = t337 := ⟨nx336_y313.1, nx336_y313.2.1, Nat.ne_of_lt (Nat.lt_of_lt_of_le L336_y313.1.lt n337), Nat.ne_of_lt (Nat.lt_of_lt_of_le L336_y313.2.2.2.1.lt n337)⟩
    have L337_y313 := L336_y313.keep K337 (ninS nx336_y313.1 nin0) (ninS nx336_y313.2.1 nin0)
    have nx337_y316 : ¬ y316 = x332 ∧ ¬ t316 = x332 ∧ ¬ y316 = t337 ∧ ¬ t316 = t337 := ⟨nx336_y316.1, nx336_y316.2.1, Nat.ne_of_lt (Nat.lt_of_lt_of_le L336_y316.1.lt n337), Nat.ne_of_lt (Nat.lt_of_lt_of_le L336_y316.2.2.2.1.lt n337)⟩
    have L337_y316 := L336_y316.keep K337 (ninS nx336_y316.1 nin0) (ninS nx336_y316.2.1 nin0)
    have nx337_y319 : ¬ y319 = x332 ∧ ¬ t319 = x332 ∧ ¬ y319 = t337 ∧ ¬ t319 = t337 := ⟨nx336_y319.1, nx336_y319.2.1, Nat.ne_of_lt (Nat.lt_of_lt_of_le L336_y319.1.lt n337), Nat.ne_of_lt (Nat.lt_of_lt_of_le L336_y319.2.2.2.1.lt n337)⟩
    have L337_y319 := L336_y319.keep K337 (ninS nx336_y319.1 nin0) (ninS nx336_y319.2.1 nin0)
    have nx337_y328 : ¬ y328 = x332 ∧ ¬ t328 = x332 ∧ ¬ y328 = t337 ∧ ¬ t328 = t337 := ⟨nx336_y328.1, nx336_y328.2.1, Nat.ne_of_lt (Nat.lt_of_lt_of_le L336_y328.1.lt n337), Nat.ne_of_lt (Nat.lt_of_lt_of_le L336_y328.2.2.2.1.lt n337)⟩
    have L337_y328 := L336_y328.keep K337 (ninS nx336_y328.1 nin0) (ninS nx336_y328.2.1 nin0)
    have nx337_y330 : ¬ y330 = x332 ∧ ¬ a330 = x332 ∧ ¬ y330 = t337 ∧ ¬ a330 = t337 := ⟨nx336_y330.1, nx336_y330.2.1, Nat.ne_of_lt (Nat.lt_of_lt_of_le L336_y330.1.lt n337), Nat.ne_of_lt (Nat.lt_of_lt_of_le L336_y330.2.2.2.1.lt n337)⟩
    have L337_y330 := L336_y330.keep K337 (ninS nx336_y330.1 nin0) (ninS nx336_y330.2.1 nin0)
    have nx337_y334 : ¬ y334 = x332 ∧ ¬ t334 = x332 ∧ ¬ y334 = t337 ∧ ¬ t334 = t337 := ⟨nx336_y334.1, nx336_y334.2.1, Nat.ne_of_lt (Nat.lt_of_lt_of_le L336_y334.1.lt n337), Nat.ne_of_lt (Nat.lt_of_lt_of_le L336_y334.2.2.2.1.lt n337)⟩
    have L337_y334 := L336_y334.keep K337 (ninS nx336_y334.1 nin0) (ninS nx336_y334.2.1 nin0)
    obtain ⟨g337, hg337, B337⟩ : ∃ g : Nat → Int32, (∀ i, i < 58 → g i = StrChars.lo8 (([110, 111, 116, 32, 40, 97, 98, 115, 40, ca, 32, 45, 32, cb, 41, 32, 60, 61, 32, ct, 32, 42, 32, 97, 98, 115, 40, ca, 41, 32, 111, 114, 32, 97, 98, 115, 40, ca, 32, 45, 32, cb, 41, 32, 60, 61, 32, ct, 32, 42, 32, 97, 98, 115, 40, cb, 41, 41] : List Int32).getD i 0)) ∧ Sb Z h337 x332 t337 k337 116 58 g := ⟨_, own_ap1 (cs := [110, 111, 116, 32, 40, 97, 98, 115, 40, ca, 32, 45, 32, cb, 41, 32, 60, 61, 32, ct, 32, 42, 32, 97, 98, 115, 40, ca, 41, 32, 111, 114, 32, 97, 98, 115, 40, ca, 32, 45, 32, cb, 41, 32, 60, 61, 32, ct, 32, 42, 32, 97, 98, 115, 40, cb, 41]) (ds := [41]) rfl rfl (own_ap2 (cnt := 57) (by decide) hg336), B337⟩
    refine P337.callV (pc1 := 172) B337.1 (wd hw (k := 158) rfl) (wd hw (k := 159) rfl) (wd hw (k := 161) rfl) (wd hw (k := 160) rfl) (notFace_of_selects (args := #[]) (mvT P337.hz (wd hw (k := 161) rfl))) (by decide) (W.MetN.pay (W := 0) (c_tos l Z a0 hw x332 t337 k337 116 58 g337 (by decide) (by decide) h337 B337 (P337.extZ EZ all0) zc fm US) P337 (wd hw (k := 162) rfl) (wd hw (k := 64) rfl) (by decide) (by decide)) (argsL := []) (st0 := []) (lenOf pd__R_Ljava_lang_String rfl) rfl rfl (Nat.le_of_eq rfl) (by rw [hml]; rfl) (by decide) (by decide) (fun _ _ _ q => by obtain ⟨_, _, _, _, q2, q3, _⟩ := q; exact ⟨q2.up P337.sz all0, CHr.ext q3 P337.chv⟩) d14_169 rfl ?_
    intro v338 T338 h338 L338 q338 P338
    obtain ⟨y338, a338, k338, rfl, f338, E338, A338, F338, C338, G338⟩ := q338
    show W.Go p.tables e below _ (T338.setTop (mkF m 172 #[.val (.ref e9), .val (.ref sa), .val (.ref sb), .val (.ref st), .val (.ref y330)] [(.ref y338)]))
    have L338_y307 := L337_y307.ext E338
    have L338_y310 := L337_y310.ext E338
    have L338_y313 := L337_y313.ext E338
    have L338_y316 := L337_y316.ext E338
    have L338_y319 := L337_y319.ext E338
    have L338_y328 := L337_y328.ext E338
    have L338_y330 := L337_y330.ext E338
    have L338_y334 := L337_y334.ext E338
    refine W.g_goto (pc1 := 326) P338.q d14_172 (by decide) rfl ?_
    have SR : W.Str Z h338 y338 (own_E1 ca cb ct) := own_toStr A338 F338 C338 G338 rfl (by decide) (fun i hi => hg337 i hi) (own_Eb1 ca cb ct ba bb bt)
    exact P338.retAW hEL hlk hret rfl rfl rfl d14_326 (by decide) (by decide) ⟨y338, rfl, P338.fr, P338.ext0, SR⟩
  · show W.Go p.tables e below _ (T331.setTop (mkF m 93 #[.val (.ref e9), .val (.ref sa), .val (.ref sb), .val (.ref st), .val (.ref y330)] [(.int (2 : Int32))]))
    refine W.g_tsw (pc1 := 175) P331.q d14_93 (by decide) rfl (by decide) rfl ?_
    refine P331.newO (pc1 := 178) (wd hw (k := 62) rfl) (wd hw (k := 63) rfl) (wd hw (k := 64) rfl) (by decide) (by decide) d14_175 rfl ?_
    intro T339 h339 x339 g339 P339 E339 A339 D339 U339
    refine W.g_dup (pc1 := 179) P339.q d14_178 rfl rfl ?_
    have Fvalue339 : Fld Z h339 x339 "java/lang/AbstractStringBuilder" "value" "[B" .null := D339 (Or.inl (wd hw (k := 77) rfl)) (ty := .array .byte) (by decide)
    have Fcoder339 : Fld Z h339 x339 "java/lang/AbstractStringBuilder" "coder" "B" (.int 0) := D339 (Or.inl (wd hw (k := 79) rfl)) (ty := .byte) (by decide)
    have Fcount339 : Fld Z h339 x339 "java/lang/AbstractStringBuilder" "count" "I" (.int 0) := D339 (Or.inl (wd hw (k := 104) rfl)) (ty := .int) (by decide)
    have hx339 : h0.size ≤ x339 := by rw [g339]; exact P331.sz
    have hzx339 : Z.heap.size ≤ x339 := Nat.le_trans EZ.1 hx339
    have Sx339 : Safe Z ownEL _ h339 x339 := Safe.exa P339.al A339 (by decide) (by decide)
    refine P339.callN (pc1 := 182) rfl (wd hw (k := 65) rfl) (wd hw (k := 66) rfl) (wd hw (k := 67) rfl) (by decide) (W.MetN.pay (W := 1) (c_sini l Z a0 hw x339 h339 A339 _ _ Fvalue339 Fcoder339 Fcount339 (P339.extZ EZ all0) zc fm US) P339 (wd hw (k := 67) rfl) (wd hw (k := 64) rfl) (by decide) (by decide)) (argsL := []) (st0 := [(.ref x339)]) (lenOf pd__R_V rfl) rfl rfl (Nat.le_of_eq rfl) (by rw [hml]; rfl) (by decide) (by decide) (fun _ _ _ q => ⟨q.2.1.up P339.sz (allS (Or.inr hx339) all0), CHr.keep q.2.2.1 (sfS Sx339 sf0) P339.chv⟩) d14_179 rfl ?_
    intro v340 T340 h340 L340 q340 P340
    obtain ⟨rfl, f340, K340, t340, k340, n340, B340⟩ := q340
    show W.Go p.tables e below _ (T340.setTop (mkF m 182 #[.val (.ref e9), .val (.ref sa), .val (.ref sb), .val (.ref st), .val (.ref y330)] [(.ref x339)]))
    have EB340 := W.Ext.keepNew E339 K340 (allS (Nat.le_of_eq g339.symm) all0)
    have Sx340 : Safe Z ownEL _ h340 x339 := Safe.keep K340 (sfS Sx339 sf0) P339.chv Sx339
    have St340 : Safe Z ownEL _ h340 t340 := Safe.keep K340 (sfS Sx339 sf0) P339.chv (Safe.new n340)
    have ht340 : h0.size ≤ t340 := Nat.le_trans P339.sz n340
    obtain ⟨g340, hg340, B340⟩ : ∃ g : Nat → Int32, (∀ i, i < 0 → g i = StrChars.lo8 (([] : List Int32).getD i 0)) ∧ Sb Z h340 x339 t340 k340 16 0 g := ⟨_, fun i hi => absurd hi (Nat.not_lt_zero i), B340⟩
    have L340_y307 := L330_y307.ext EB340
    have nx340_y307 : ¬ y307 = x339 ∧ ¬ t307 = x339 ∧ ¬ y307 = t340 ∧ ¬ t307 = t340 := by
      have q1 := L330_y307.1.lt
      have q2 := L330_y307.2.2.2.1.lt
      have q3 := E339.1
      exact ⟨Nat.ne_of_lt (by rw [g339]; exact q1), Nat.ne_of_lt (by rw [g339]; exact q2), Nat.ne_of_lt (Nat.lt_of_lt_of_le q1 (Nat.le_trans q3 n340)), Nat.ne_of_lt (Nat.lt_of_lt_of_le q2 (Nat.le_trans q3 n340))⟩
    have L340_y310 := L330_y310.ext EB340
    have nx340_y310 : ¬ y310 = x339 ∧ ¬ t310 = x339 ∧ ¬ y310 = t340 ∧ ¬ t310 = t340 := by
      have q1 := L330_y310.1.lt
      have q2 := L330_y310.2.2.2.1.lt
      have q3 := E339.1
      exact ⟨Nat.ne_of_lt (by rw [g339]; exact q1), Nat.ne_of_lt (by rw [g339]; exact q2), Nat.ne_of_lt (Nat.lt_of_lt_of_le q1 (Nat.le_trans q3 n340)), Nat.ne_of_lt (Nat.lt_of_lt_of_le q2 (Nat.le_trans q3 n340))⟩
    have L340_y313 := L330_y313.ext EB340
    have nx340_y313 : ¬ y313 = x339 ∧ ¬ t313 = x339 ∧ ¬ y313 = t340 ∧ ¬ t313 = t340 := by
      have q1 := L330_y313.1.lt
      have q2 := L330_y313.2.2.2.1.lt
      have q3 := E339.1
      exact ⟨Nat.ne_of_lt (by rw [g339]; exact q1), Nat.ne_of_lt (by rw [g339]; exact q2), Nat.ne_of_lt (Nat.lt_of_lt_of_le q1 (Nat.le_trans q3 n340)), Nat.ne_of_lt (Nat.lt_of_lt_of_le q2 (Nat.le_trans q3 n340))⟩
    have L340_y316 := L330_y316.ext EB340
    have nx340_y316 : ¬ y316 = x339 ∧ ¬ t316 = x339 ∧ ¬ y316 = t340 ∧ ¬ t316 = t340 := by
      have q1 := L330_y316.1.lt
      have q2 := L330_y316.2.2.2.1.lt
      have q3 := E339.1
      exact ⟨Nat.ne_of_lt (by rw [g339]; exact q1), Nat.ne_of_lt (by rw [g339]; exact q2), Nat.ne_of_lt (Nat.lt_of_lt_of_le q1 (Nat.le_trans q3 n340)), Nat.ne_of_lt (Nat.lt_of_lt_of_le q2 (Nat.le_trans q3 n340))⟩
    have L340_y319 := L330_y319.ext EB340
    have nx340_y319 : ¬ y319 = x339 ∧ ¬ t319 = x339 ∧ ¬ y319 = t340 ∧ ¬ t319 = t340 := by
      have q1 := L330_y319.1.lt
      have q2 := L330_y319.2.2.2.1.lt
      have q3 := E339.1
      exact ⟨Nat.ne_of_lt (by rw [g339]; exact q1), Nat.ne_of_lt (by rw [g339]; exact q2), Nat.ne_of_lt (Nat.lt_of_lt_of_le q1 (Nat.le_trans q3 n340)), Nat.ne_of_lt (Nat.lt_of_lt_of_le q2 (Nat.le_trans q3 n340))⟩
    have L340_y328 := L330_y328.ext EB340
    have nx340_y328 : ¬ y328 = x339 ∧ ¬ t328 = x339 ∧ ¬ y328 = t340 ∧ ¬ t328 = t340 := by
      have q1 := L330_y328.1.lt
      have q2 := L330_y328.2.2.2.1.lt
      have q3 := E339.1
      exact ⟨Nat.ne_of_lt (by rw [g339]; exact q1), Nat.ne_of_lt (by rw [g339]; exact q2), Nat.ne_of_lt (Nat.lt_of_lt_of_le q1 (Nat.le_trans q3 n340)), Nat.ne_of_lt (Nat.lt_of_lt_of_le q2 (Nat.le_trans q3 n340))⟩
    have L340_y330 := L4.ext EB340
    have nx340_y330 : ¬ y330 = x339 ∧ ¬ a330 = x339 ∧ ¬ y330 = t340 ∧ ¬ a330 = t340 := by
      have q1 := L4.1.lt
      have q2 := L4.2.2.2.1.lt
      have q3 := E339.1
      exact ⟨Nat.ne_of_lt (by rw [g339]; exact q1), Nat.ne_of_lt (by rw [g339]; exact q2), Nat.ne_of_lt (Nat.lt_of_lt_of_le q1 (Nat.le_trans q3 n340)), Nat.ne_of_lt (Nat.lt_of_lt_of_le q2 (Nat.le_trans q3 n340))⟩
    refine W.g_aloadN (pc1 := 183) P340.q d14_182 rfl rfl rfl ?_
    refine P340.callV (pc1 := 186) B340.1 (wd hw (k := 83) rfl) (wd hw (k := 84) rfl) (wd hw (k := 86) rfl) (wd hw (k := 85) rfl) (notFace_of_selects (args := #[]) (mvT P340.hz (wd hw (k := 86) rfl))) (by decide) (W.MetN.pay (W := 0) (c_sapp l Z a0 hw x339 t340 k340 16 0 g340 sa ta ka 1 (fun i => ([ca] : List Int32).getD i 0) h340 B340 (La.ext P340.ext0) (by decide) (P340.extZ EZ all0) zc fm US) P340 (wd hw (k := 87) rfl) (wd hw (k := 64) rfl) (by decide) (by decide)) (argsL := [(.ref sa)]) (st0 := []) (lenOf pd_Ljava_lang_String_R_Ljava_lang_StringBuilder rfl) rfl rfl (Nat.le_of_eq rfl) (by rw [hml]; rfl) (by decide) (by decide) (fun _ _ _ q => ⟨q.2.1.up P340.sz (allS (Or.inr hx339) (allS (Or.inr ht340) all0)), CHr.keep q.2.2.1 (sfS Sx340 (sfS St340 sf0)) P340.chv⟩) d14_183 rfl ?_
    intro v341 T341 h341 L341 q341 P341
    obtain ⟨rfl, f341, K341, B341⟩ := q341
    show W.Go p.tables e below _ (T341.setTop (mkF m 186 #[.val (.ref e9), .val (.ref sa), .val (.ref sb), .val (.ref st), .val (.ref y330)] [(.ref x339)]))
    have Sx341 : Safe Z ownEL _ h341 x339 := Safe.keep K341 (sfS Sx340 (sfS St340 sf0)) P340.chv Sx340
    have St341 : Safe Z ownEL _ h341 t340 := Safe.keep K341 (sfS Sx340 (sfS St340 sf0)) P340.chv St340
    have L341_y307 := L340_y307.keep K341 (ninS nx340_y307.1 (ninS nx340_y307.2.2.1 nin0)) (ninS nx340_y307.2.1 (ninS nx340_y307.2.2.2 nin0))
    have L341_y310 := L340_y310.keep K341 (ninS nx340_y310.1 (ninS nx340_y310.2.2.1 nin0)) (ninS nx340_y310.2.1 (ninS nx340_y310.2.2.2 nin0))
    have L341_y313 := L340_y313.keep K341 (ninS nx340_y313.1 (ninS nx340_y313.2.2.1 nin0)) (ninS nx340_y313.2.1 (ninS nx340_y313.2.2.2 nin0))
    have L341_y316 := L340_y316.keep K341 (ninS nx340_y316.1 (ninS nx340_y316.2.2.1 nin0)) (ninS nx340_y316.2.1 (ninS nx340_y316.2.2.2 nin0))
    have L341_y319 := L340_y319.keep K341 (ninS nx340_y319.1 (ninS nx340_y319.2.2.1 nin0)) (ninS nx340_y319.2.1 (ninS nx340_y319.2.2.2 nin0))
    have L341_y328 := L340_y328.keep K341 (ninS nx340_y328.1 (ninS nx340_y328.2.2.1 nin0)) (ninS nx340_y328.2.1 (ninS nx340_y328.2.2.2 nin0))
    have L341_y330 := L340_y330.keep K341 (ninS nx340_y330.1 (ninS nx340_y330.2.2.1 nin0)) (ninS nx340_y330.2.1 (ninS nx340_y330.2.2.2 nin0))
    obtain ⟨g341, hg341, B341⟩ : ∃ g : Nat → Int32, (∀ i, i < 1 → g i = StrChars.lo8 (([ca] : List Int32).getD i 0)) ∧ Sb Z h341 x339 t340 k340 16 1 g := ⟨_, own_ap1 (cs := []) (ds := [ca]) rfl rfl hg340, B341⟩
    refine P341.ldcK (pc1 := 188) (n := 12) (vs := [.int 32, .int 62, .int 32]) (z := 3) (wd hw (k := 219) rfl) wS hEL (by decide) ⟨by decide, by decide +kernel⟩ (by decide) (by decide) (by decide) (by decide) (by decide) (by decide) d14_186 rfl ?_
    intro y342 T342 h342 t342 k342 P342 E342 R342 A342 C342 F342 V342 N342 I342 M342
    have L342_y307 := L341_y307.ext E342
    have I342_y307 := Lit.stays I328_y307 M342
    have L342_y310 := L341_y310.ext E342
    have I342_y310 := Lit.stays I328_y310 M342
    have L342_y313 := L341_y313.ext E342
    have I342_y313 := Lit.stays I328_y313 M342
    have L342_y316 := L341_y316.ext E342
    have I342_y316 := Lit.stays I328_y316 M342
    have L342_y319 := L341_y319.ext E342
    have I342_y319 := Lit.stays I328_y319 M342
    have L342_y328 := L341_y328.ext E342
    have I342_y328 := Lit.stays I328 M342
    have L342_y330 := L341_y330.ext E342
    have LL342 : Lt Z h342 y342 t342 k342 3 (fun i => ([32, 62, 32] : List Int32).getD i 0) := ⟨A342, F342, C342, W.Arg.of 3 V342 rfl (by decide) (fun i hi => match i, hi with | 0, _ => rfl | 1, _ => rfl | 2, _ => rfl | k + 3, hk => absurd hk (Nat.not_lt.mpr (Nat.le_add_left _ _))), own_byD (cs := [32, 62, 32]) (List.forall_mem_cons.mpr ⟨(own_b 32), (List.forall_mem_cons.mpr ⟨(own_b 62), (List.forall_mem_cons.mpr ⟨(own_b 32), (fun c hc => absurd hc (List.not_mem_nil))⟩)⟩)⟩)⟩
    have B342 := B341.ext E342
    have Sx342 := R342.safe B341.1.lt Sx341
    have St342 := R342.safe B341.2.2.2.2.1.lt St341
    have nx342_y342 : ¬ y342 = x339 ∧ ¬ t342 = x339 ∧ ¬ y342 = t340 ∧ ¬ t342 = t340 := ⟨Ne.symm (N342 _ Sx342).1, Ne.symm (N342 _ Sx342).2, Ne.symm (N342 _ St342).1, Ne.symm (N342 _ St342).2⟩
    refine P342.callV (pc1 := 191) B342.1 (wd hw (k := 83) rfl) (wd hw (k := 84) rfl) (wd hw (k := 86) rfl) (wd hw (k := 85) rfl) (notFace_of_selects (args := #[]) (mvT P342.hz (wd hw (k := 86) rfl))) (by decide) (W.MetN.pay (W := 0) (c_sapp l Z a0 hw x339 t340 k340 16 1 g341 y342 t342 k342 3 (fun i => ([32, 62, 32] : List Int32).getD i 0) h342 B342 (LL342) (by decide) (P342.extZ EZ all0) zc fm US) P342 (wd hw (k := 87) rfl) (wd hw (k := 64) rfl) (by decide) (by decide)) (argsL := [(.ref y342)]) (st0 := []) (lenOf pd_Ljava_lang_String_R_Ljava_lang_StringBuilder rfl) rfl rfl (Nat.le_of_eq rfl) (by rw [hml]; rfl) (by decide) (by decide) (fun _ _ _ q => ⟨q.2.1.up P342.sz (allS (Or.inr hx339) (allS (Or.inr ht340) all0)), CHr.keep q.2.2.1 (sfS Sx342 (sfS St342 sf0)) P342.chv⟩) d14_188 rfl ?_
    intro v343 T343 h343 L343 q343 P343
    obtain ⟨rfl, f343, K343, B343⟩ := q343
    show W.Go p.tables e below _ (T343.setTop (mkF m 191 #[.val (.ref e9), .val (.ref sa), .val (.ref sb), .val (.ref st), .val (.ref y330)] [(.ref x339)]))
    have Sx343 : Safe Z ownEL _ h343 x339 := Safe.keep K343 (sfS Sx342 (sfS St342 sf0)) P342.chv Sx342
    have St343 : Safe Z ownEL _ h343 t340 := Safe.keep K343 (sfS Sx342 (sfS St342 sf0)) P342.chv St342
    have L343_y307 := L342_y307.keep K343 (ninS nx340_y307.1 (ninS nx340_y307.2.2.1 nin0)) (ninS nx340_y307.2.1 (ninS nx340_y307.2.2.2 nin0))
    have L343_y310 := L342_y310.keep K343 (ninS nx340_y310.1 (ninS nx340_y310.2.2.1 nin0)) (ninS nx340_y310.2.1 (ninS nx340_y310.2.2.2 nin0))
    have L343_y313 := L342_y313.keep K343 (ninS nx340_y313.1 (ninS nx340_y313.2.2.1 nin0)) (ninS nx340_y313.2.1 (ninS nx340_y313.2.2.2 nin0))
    have L343_y316 := L342_y316.keep K343 (ninS nx340_y316.1 (ninS nx340_y316.2.2.1 nin0)) (ninS nx340_y316.2.1 (ninS nx340_y316.2.2.2 nin0))
    have L343_y319 := L342_y319.keep K343 (ninS nx340_y319.1 (ninS nx340_y319.2.2.1 nin0)) (ninS nx340_y319.2.1 (ninS nx340_y319.2.2.2 nin0))
    have L343_y328 := L342_y328.keep K343 (ninS nx340_y328.1 (ninS nx340_y328.2.2.1 nin0)) (ninS nx340_y328.2.1 (ninS nx340_y328.2.2.2 nin0))
    have L343_y330 := L342_y330.keep K343 (ninS nx340_y330.1 (ninS nx340_y330.2.2.1 nin0)) (ninS nx340_y330.2.1 (ninS nx340_y330.2.2.2 nin0))
    have L343_y342 := LL342.keep K343 (ninS nx342_y342.1 (ninS nx342_y342.2.2.1 nin0)) (ninS nx342_y342.2.1 (ninS nx342_y342.2.2.2 nin0))
    obtain ⟨g343, hg343, B343⟩ : ∃ g : Nat → Int32, (∀ i, i < 4 → g i = StrChars.lo8 (([ca, 32, 62, 32] : List Int32).getD i 0)) ∧ Sb Z h343 x339 t340 k340 16 4 g := ⟨_, own_ap1 (cs := [ca]) (ds := [32, 62, 32]) rfl rfl hg341, B343⟩
    refine W.g_aloadN (pc1 := 192) P343.q d14_191 rfl rfl rfl ?_
    refine P343.callV (pc1 := 195) B343.1 (wd hw (k := 83) rfl) (wd hw (k := 84) rfl) (wd hw (k := 86) rfl) (wd hw (k := 85) rfl) (notFace_of_selects (args := #[]) (mvT P343.hz (wd hw (k := 86) rfl))) (by decide) (W.MetN.pay (W := 0) (c_sapp l Z a0 hw x339 t340 k340 16 4 g343 sb tb kb 1 (fun i => ([cb] : List Int32).getD i 0) h343 B343 (Lb.ext P343.ext0) (by decide) (P343.extZ EZ all0) zc fm US) P343 (wd hw (k := 87) rfl) (wd hw (k := 64) rfl) (by decide) (by decide)) (argsL := [(.ref sb)]) (st0 := []) (lenOf pd_Ljava_lang_String_R_Ljava_lang_StringBuilder rfl) rfl rfl (Nat.le_of_eq rfl) (by rw [hml]; rfl) (by decide) (by decide) (fun _ _ _ q => ⟨q.2.1.up P343.sz (allS (Or.inr hx339) (allS (Or.inr ht340) all0)), CHr.keep q.2.2.1 (sfS Sx343 (sfS St343 sf0)) P343.chv⟩) d14_192 rfl ?_
    intro v344 T344 h344 L344 q344 P344
    obtain ⟨rfl, f344, K344, B344⟩ := q344
    show W.Go p.tables e below _ (T344.setTop (mkF m 195 #[.val (.ref e9), .val (.ref sa), .val (.ref sb), .val (.ref st), .val (.ref y330)] [(.ref x339)]))
    have Sx344 : Safe Z ownEL _ h344 x339 := Safe.keep K344 (sfS Sx343 (sfS St343 sf0)) P343.chv Sx343
    have St344 : Safe Z ownEL _ h344 t340 := Safe.keep K344 (sfS Sx343 (sfS St343 sf0)) P343.chv St343
    have L344_y307 := L343_y307.keep K344 (ninS nx340_y307.1 (ninS nx340_y307.2.2.1 nin0)) (ninS nx340_y307.2.1 (ninS nx340_y307.2.2.2 nin0))
    have L344_y310 := L343_y310.keep K344 (ninS nx340_y310.1 (ninS nx340_y310.2.2.1 nin0)) (ninS nx340_y310.2.1 (ninS nx340_y310.2.2.2 nin0))
    have L344_y313 := L343_y313.keep K344 (ninS nx340_y313.1 (ninS nx340_y313.2.2.1 nin0)) (ninS nx340_y313.2.1 (ninS nx340_y313.2.2.2 nin0))
    have L344_y316 := L343_y316.keep K344 (ninS nx340_y316.1 (ninS nx340_y316.2.2.1 nin0)) (ninS nx340_y316.2.1 (ninS nx340_y316.2.2.2 nin0))
    have L344_y319 := L343_y319.keep K344 (ninS nx340_y319.1 (ninS nx340_y319.2.2.1 nin0)) (ninS nx340_y319.2.1 (ninS nx340_y319.2.2.2 nin0))
    have L344_y328 := L343_y328.keep K344 (ninS nx340_y328.1 (ninS nx340_y328.2.2.1 nin0)) (ninS nx340_y328.2.1 (ninS nx340_y328.2.2.2 nin0))
    have L344_y330 := L343_y330.keep K344 (ninS nx340_y330.1 (ninS nx340_y330.2.2.1 nin0)) (ninS nx340_y330.2.1 (ninS nx340_y330.2.2.2 nin0))
    have L344_y342 := L343_y342.keep K344 (ninS nx342_y342.1 (ninS nx342_y342.2.2.1 nin0)) (ninS nx342_y342.2.1 (ninS nx342_y342.2.2.2 nin0))
    obtain ⟨g344, hg344, B344⟩ : ∃ g : Nat → Int32, (∀ i, i < 5 → g i = StrChars.lo8 (([ca, 32, 62, 32, cb] : List Int32).getD i 0)) ∧ Sb Z h344 x339 t340 k340 16 5 g := ⟨_, own_ap1 (cs := [ca, 32, 62, 32]) (ds := [cb]) rfl rfl hg343, B344⟩
    refine P344.ldcK (pc1 := 197) (n := 40) (vs := [.int 32, .int 97, .int 110, .int 100, .int 32, .int 110, .int 111, .int 116, .int 32, .int 40]) (z := 10) (wd hw (k := 220) rfl) wS hEL (by decide) ⟨by decide, by decide +kernel⟩ (by decide) (by decide) (by decide) (by decide) (by decide) (by decide) d14_195 rfl ?_
    intro y345 T345 h345 t345 k345 P345 E345 R345 A345 C345 F345 V345 N345 I345 M345
    have L345_y307 := L344_y307.ext E345
    have I345_y307 := Lit.stays I342_y307 M345
    have L345_y310 := L344_y310.ext E345
    have I345_y310 := Lit.stays I342_y310 M345
    have L345_y313 := L344_y313.ext E345
    have I345_y313 := Lit.stays I342_y313 M345
    have L345_y316 := L344_y316.ext E345
    have I345_y316 := Lit.stays I342_y316 M345
    have L345_y319 := L344_y319.ext E345
    have I345_y319 := Lit.stays I342_y319 M345
    have L345_y328 := L344_y328.ext E345
    have I345_y328 := Lit.stays I342_y328 M345
    have L345_y330 := L344_y330.ext E345
    have L345_y342 := L344_y342.ext E345
    have I345_y342 := Lit.stays I342 M345
    have LL345 : Lt Z h345 y345 t345 k345 10 (fun i => ([32, 97, 110, 100, 32, 110, 111, 116, 32, 40] : List Int32).getD i 0) := ⟨A345, F345, C345, W.Arg.of 10 V345 rfl (by decide) (fun i hi => match i, hi with | 0, _ => rfl | 1, _ => rfl | 2, _ => rfl | 3, _ => rfl | 4, _ => rfl | 5, _ => rfl | 6, _ => rfl | 7, _ => rfl | 8, _ => rfl | 9, _ => rfl | k + 10, hk => absurd hk (Nat.not_lt.mpr (Nat.le_add_left _ _))), own_byD (cs := [32, 97, 110, 100, 32, 110, 111, 116, 32, 40]) (List.forall_mem_cons.mpr ⟨(own_b 32), (List.forall_mem_cons.mpr ⟨(own_b 97), (List.forall_mem_cons.mpr ⟨(own_b 110), (List.forall_mem_cons.mpr ⟨(own_b 100), (List.forall_mem_cons.mpr ⟨(own_b 32), (List.forall_mem_cons.mpr ⟨(own_b 110), (List.forall_mem_cons.mpr ⟨(own_b 111), (List.forall_mem_cons.mpr ⟨(own_b 116), (List.forall_mem_cons.mpr ⟨(own_b 32), (List.forall_mem_cons.mpr ⟨(own_b 40), (fun c hc => absurd hc (List.not_mem_nil))⟩)⟩)⟩)⟩)⟩)⟩)⟩)⟩)⟩)⟩)⟩
    have B345 := B344.ext E345
    have Sx345 := R345.safe B344.1.lt Sx344
    have St345 := R345.safe B344.2.2.2.2.1.lt St344
    have nx345_y345 : ¬ y345 = x339 ∧ ¬ t345 = x339 ∧ ¬ y345 = t340 ∧ ¬ t345 = t340 := ⟨Ne.symm (N345 _ Sx345).1, Ne.symm (N345 _ Sx345).2, Ne.symm (N345 _ St345).1, Ne.symm (N345 _ St345).2⟩
    refine P345.callV (pc1 := 200) B345.1 (wd hw (k := 83) rfl) (wd hw (k := 84) rfl) (wd hw (k := 86) rfl) (wd hw (k := 85) rfl) (notFace_of_selects (args := #[]) (mvT P345.hz (wd hw (k := 86) rfl))) (by decide) (W.MetN.pay (W := 0) (c_sapp l Z a0 hw x339 t340 k340 16 5 g344 y345 t345 k345 10 (fun i => ([32, 97, 110, 100, 32, 110, 111, 116, 32, 40] : List Int32).getD i 0) h345 B345 (LL345) (by decide) (P345.extZ EZ all0) zc fm US) P345 (wd hw (k := 87) rfl) (wd hw (k := 64) rfl) (by decide) (by decide)) (argsL := [(.ref y345)]) (st0 := []) (lenOf pd_Ljava_lang_String_R_Ljava_lang_StringBuilder rfl) rfl rfl (Nat.le_of_eq rfl) (by rw [hml]; rfl) (by decide) (by decide) (fun _ _ _ q => ⟨q.2.1.up P345.sz (allS (Or.inr hx339) (allS (Or.inr ht340) all0)), CHr.keep q.2.2.1 (sfS Sx345 (sfS St345 sf0)) P345.chv⟩) d14_197 rfl ?_
    intro v346 T346 h346 L346 q346 P346
    obtain ⟨rfl, f346, K346, B346⟩ := q346
    show W.Go p.tables e below _ (T346.setTop (mkF m 200 #[.val (.ref e9), .val (.ref sa), .val (.ref sb), .val (.ref st), .val (.ref y330)] [(.ref x339)]))
    have Sx346 : Safe Z ownEL _ h346 x339 := Safe.keep K346 (sfS Sx345 (sfS St345 sf0)) P345.chv Sx345
    have St346 : Safe Z ownEL _ h346 t340 := Safe.keep K346 (sfS Sx345 (sfS St345 sf0)) P345.chv St345
    have L346_y307 := L345_y307.keep K346 (ninS nx340_y307.1 (ninS nx340_y307.2.2.1 nin0)) (ninS nx340_y307.2.1 (ninS nx340_y307.2.2.2 nin0))
    have L346_y310 := L345_y310.keep K346 (ninS nx340_y310.1 (ninS nx340_y310.2.2.1 nin0)) (ninS nx340_y310.2.1 (ninS nx340_y310.2.2.2 nin0))
    have L346_y313 := L345_y313.keep K346 (ninS nx340_y313.1 (ninS nx340_y313.2.2.1 nin0)) (ninS nx340_y313.2.1 (ninS nx340_y313.2.2.2 nin0))
    have L346_y316 := L345_y316.keep K346 (ninS nx340_y316.1 (ninS nx340_y316.2.2.1 nin0)) (ninS nx340_y316.2.1 (ninS nx340_y316.2.2.2 nin0))
    have L346_y319 := L345_y319.keep K346 (ninS nx340_y319.1 (ninS nx340_y319.2.2.1 nin0)) (ninS nx340_y319.2.1 (ninS nx340_y319.2.2.2 nin0))
    have L346_y328 := L345_y328.keep K346 (ninS nx340_y328.1 (ninS nx340_y328.2.2.1 nin0)) (ninS nx340_y328.2.1 (ninS nx340_y328.2.2.2 nin0))
    have L346_y330 := L345_y330.keep K346 (ninS nx340_y330.1 (ninS nx340_y330.2.2.1 nin0)) (ninS nx340_y330.2.1 (ninS nx340_y330.2.2.2 nin0))
    have L346_y342 := L345_y342.keep K346 (ninS nx342_y342.1 (ninS nx342_y342.2.2.1 nin0)) (ninS nx342_y342.2.1 (ninS nx342_y342.2.2.2 nin0))
    have L346_y345 := LL345.keep K346 (ninS nx345_y345.1 (ninS nx345_y345.2.2.1 nin0)) (ninS nx345_y345.2.1 (ninS nx345_y345.2.2.2 nin0))
    obtain ⟨g346, hg346, B346⟩ : ∃ g : Nat → Int32, (∀ i, i < 15 → g i = StrChars.lo8 (([ca, 32, 62, 32, cb, 32, 97, 110, 100, 32, 110, 111, 116, 32, 40] : List Int32).getD i 0)) ∧ Sb Z h346 x339 t340 k340 16 15 g := ⟨_, own_ap1 (cs := [ca, 32, 62, 32, cb]) (ds := [32, 97, 110, 100, 32, 110, 111, 116, 32, 40]) rfl rfl hg344, B346⟩
    refine W.g_aload (pc1 := 202) P346.q d14_200 rfl rfl rfl ?_
    refine P346.callV (pc1 := 205) B346.1 (wd hw (k := 83) rfl) (wd hw (k := 84) rfl) (wd hw (k := 86) rfl) (wd hw (k := 85) rfl) (notFace_of_selects (args := #[]) (mvT P346.hz (wd hw (k := 86) rfl))) (by decide) (W.MetN.pay (W := 0) (c_sappg l Z a0 hw x339 t340 k340 16 15 g346 y330 a330 k330 52 (fun i => ([97, 98, 115, 40, ca, 32, 45, 32, cb, 41, 32, 60, 61, 32, ct, 32, 42, 32, 97, 98, 115, 40, ca, 41, 32, 111, 114, 32, 97, 98, 115, 40, ca, 32, 45, 32, cb, 41, 32, 60, 61, 32, ct, 32, 42, 32, 97, 98, 115, 40, cb, 41] : List Int32).getD i 0) h346 B346 (L346_y330) 67 (by decide) (by decide) (by decide) nx340_y330.1 nx340_y330.2.1 hzx339 (P346.extZ EZ all0) zc fm US) P346 (wd hw (k := 87) rfl) (wd hw (k := 64) rfl) (by decide) (by decide)) (argsL := [(.ref y330)]) (st0 := []) (lenOf pd_Ljava_lang_String_R_Ljava_lang_StringBuilder rfl) rfl rfl (Nat.le_of_eq rfl) (by rw [hml]; rfl) (by decide) (by decide) (fun _ _ _ q => ⟨q.2.1.up P346.sz (allS (Or.inr hx339) all0), CHr.keep q.2.2.1 (sfS Sx346 sf0) P346.chv⟩) d14_202 rfl ?_
    intro v347 T347 h347 L347 q347 P347
    obtain ⟨rfl, f347, K347, t347, k347, n347, B347⟩ := q347
    show W.Go p.tables e below _ (T347.setTop (mkF m 205 #[.val (.ref e9), .val (.ref sa), .val (.ref sb), .val (.ref st), .val (.ref y330)] [(.ref x339)]))
    have Sx347 : Safe Z ownEL _ h347 x339 := Safe.keep K347 (sfS Sx346 sf0) P346.chv Sx346
    have St347 : Safe Z ownEL _ h347 t347 := Safe.keep K347 (sfS Sx346 sf0) P346.chv (Safe.new n347)
    have ht347 : h0.size ≤ t347 := Nat.le_trans P346.sz n347
    have nx347_y307 : ¬ y307 = x339 ∧ ¬ t307 = x339 ∧ ¬ y307 = t347 ∧ ¬ t307 = t347 := ⟨nx340_y307.1, nx340_y307.2.1, Nat.ne_of_lt (Nat.lt_of_lt_of_le L346_y307.1.lt n347), Nat.ne_of_lt (Nat.lt_of_lt_of_le L346_y307.2.2.2.1.lt n347)⟩
    have L347_y307 := L346_y307.keep K347 (ninS nx340_y307.1 nin0) (ninS nx340_y307.2.1 nin0)
    have nx347_y310 : ¬ y310 = x339 ∧ ¬ t310 = x339 ∧ ¬ y310 = t347 ∧ ¬ t310 = t347 := ⟨nx340_y310.1, nx340_y310.2.1, Nat.ne_of_lt (Nat.lt_of_lt_of_le L346_y310.1.lt n347), Nat.ne_of_lt (Nat.lt_of_lt_of_le L346_y310.2.2.2.1.lt n347)⟩
    have L347_y310 := L346_y310.keep K347 (ninS nx340_y310.1 nin0) (ninS nx340_y310.2.1 nin0)
    have nx347_y313 : ¬ y313 = x339 ∧ ¬ t313 = x339 ∧ ¬ y313 = t347 ∧ ¬ t313 = t347 := ⟨nx340_y313.1, nx340_y313.2.1, Nat.ne_of_lt (Nat.lt_of_lt_of_le L346_y313.1.lt n347), Nat.ne_of_lt (Nat.lt_of_lt_of_le L346_y313.2.2.2.1.lt n347)⟩
    have L347_y313 := L346_y313.keep K347 (ninS nx340_y313.1 nin0) (ninS nx340_y313.2.1 nin0)
    have nx347_y316 : ¬ y316 = x339 ∧ ¬ t316 = x339 ∧ ¬ y316 = t347 ∧ ¬ t316 = t347 := ⟨nx340_y316.1, nx340_y316.2.1, Nat.ne_of_lt (Nat.lt_of_lt_of_le L346_y316.1.lt n347), Nat.ne_of_lt (Nat.lt_of_lt_of_le L346_y316.2.2.2.1.lt n347)⟩
    have L347_y316 := L346_y316.keep K347 (ninS nx340_y316.1 nin0) (ninS nx340_y316.2.1 nin0)
    have nx347_y319 : ¬ y319 = x339 ∧ ¬ t319 = x339 ∧ ¬ y319 = t347 ∧ ¬ t319 = t347 := ⟨nx340_y319.1, nx340_y319.2.1, Nat.ne_of_lt (Nat.lt_of_lt_of_le L346_y319.1.lt n347), Nat.ne_of_lt (Nat.lt_of_lt_of_le L346_y319.2.2.2.1.lt n347)⟩
    have L347_y319 := L346_y319.keep K347 (ninS nx340_y319.1 nin0) (ninS nx340_y319.2.1 nin0)
    have nx347_y328 : ¬ y328 = x339 ∧ ¬ t328 = x339 ∧ ¬ y328 = t347 ∧ ¬ t328 = t347 := ⟨nx340_y328.1, nx340_y328.2.1, Nat.ne_of_lt (Nat.lt_of_lt_of_le L346_y328.1.lt n347), Nat.ne_of_lt (Nat.lt_of_lt_of_le L346_y328.2.2.2.1.lt n347)⟩
    have L347_y328 := L346_y328.keep K347 (ninS nx340_y328.1 nin0) (ninS nx340_y328.2.1 nin0)
    have nx347_y330 : ¬ y330 = x339 ∧ ¬ a330 = x339 ∧ ¬ y330 = t347 ∧ ¬ a330 = t347 := ⟨nx340_y330.1, nx340_y330.2.1, Nat.ne_of_lt (Nat.lt_of_lt_of_le L346_y330.1.lt n347), Nat.ne_of_lt (Nat.lt_of_lt_of_le L346_y330.2.2.2.1.lt n347)⟩
    have L347_y330 := L346_y330.keep K347 (ninS nx340_y330.1 nin0) (ninS nx340_y330.2.1 nin0)
    have nx347_y342 : ¬ y342 = x339 ∧ ¬ t342 = x339 ∧ ¬ y342 = t347 ∧ ¬ t342 = t347 := ⟨nx342_y342.1, nx342_y342.2.1, Nat.ne_of_lt (Nat.lt_of_lt_of_le L346_y342.1.lt n347), Nat.ne_of_lt (Nat.lt_of_lt_of_le L346_y342.2.2.2.1.lt n347)⟩
    have L347_y342 := L346_y342.keep K347 (ninS nx342_y342.1 nin0) (ninS nx342_y342.2.1 nin0)
    have nx347_y345 : ¬ y345 = x339 ∧ ¬ t345 = x339 ∧ ¬ y345 = t347 ∧ ¬ t345 = t347 := ⟨nx345_y345.1, nx345_y345.2.1, Nat.ne_of_lt (Nat.lt_of_lt_of_le L346_y345.1.lt n347), Nat.ne_of_lt (Nat.lt_of_lt_of_le L346_y345.2.2.2.1.lt n347)⟩
    have L347_y345 := L346_y345.keep K347 (ninS nx345_y345.1 nin0) (ninS nx345_y345.2.1 nin0)
    obtain ⟨g347, hg347, B347⟩ : ∃ g : Nat → Int32, (∀ i, i < 67 → g i = StrChars.lo8 (([ca, 32, 62, 32, cb, 32, 97, 110, 100, 32, 110, 111, 116, 32, 40, 97, 98, 115, 40, ca, 32, 45, 32, cb, 41, 32, 60, 61, 32, ct, 32, 42, 32, 97, 98, 115, 40, ca, 41, 32, 111, 114, 32, 97, 98, 115, 40, ca, 32, 45, 32, cb, 41, 32, 60, 61, 32, ct, 32, 42, 32, 97, 98, 115, 40, cb, 41] : List Int32).getD i 0)) ∧ Sb Z h347 x339 t347 k347 67 67 g := ⟨_, own_ap1 (cs := [ca, 32, 62, 32, cb, 32, 97, 110, 100, 32, 110, 111, 116, 32, 40]) (ds := [97, 98, 115, 40, ca, 32, 45, 32, cb, 41, 32, 60, 61, 32, ct, 32, 42, 32, 97, 98, 115, 40, ca, 41, 32, 111, 114, 32, 97, 98, 115, 40, ca, 32, 45, 32, cb, 41, 32, 60, 61, 32, ct, 32, 42, 32, 97, 98, 115, 40, cb, 41]) rfl rfl (own_ap2 (cnt := 15) (by decide) hg346), B347⟩
    refine P347.ldcA (pc1 := 207) (text := ")") (wd hw (k := 157) rfl) I345_y328 d14_205 rfl ?_
    show W.Go p.tables e below _ (T347.setTop (mkF m 207 #[.val (.ref e9), .val (.ref sa), .val (.ref sb), .val (.ref st), .val (.ref y330)] [(.ref y328), (.ref x339)]))
    refine P347.callV (pc1 := 210) B347.1 (wd hw (k := 83) rfl) (wd hw (k := 84) rfl) (wd hw (k := 86) rfl) (wd hw (k := 85) rfl) (notFace_of_selects (args := #[]) (mvT P347.hz (wd hw (k := 86) rfl))) (by decide) (W.MetN.pay (W := 0) (c_sappg l Z a0 hw x339 t347 k347 67 67 g347 y328 t328 k328 1 (fun i => ([41] : List Int32).getD i 0) h347 B347 (L347_y328) 136 (by decide) (by decide) (by decide) nx347_y328.1 nx347_y328.2.1 hzx339 (P347.extZ EZ all0) zc fm US) P347 (wd hw (k := 87) rfl) (wd hw (k := 64) rfl) (by decide) (by decide)) (argsL := [(.ref y328)]) (st0 := []) (lenOf pd_Ljava_lang_String_R_Ljava_lang_StringBuilder rfl) rfl rfl (Nat.le_of_eq rfl) (by rw [hml]; rfl) (by decide) (by decide) (fun _ _ _ q => ⟨q.2.1.up P347.sz (allS (Or.inr hx339) all0), CHr.keep q.2.2.1 (sfS Sx347 sf0) P347.chv⟩) d14_207 rfl ?_
    intro v348 T348 h348 L348 q348 P348
    obtain ⟨rfl, f348, K348, t348, k348, n348, B348⟩ := q348
    show W.Go p.tables e below _ (T348.setTop (mkF m 210 #[.val (.ref e9), .val (.ref sa), .val (.ref sb), .val (.ref st), .val (.ref y330)] [(.ref x339)]))
    have Sx348 : Safe Z ownEL _ h348 x339 := Safe.keep K348 (sfS Sx347 sf0) P347.chv Sx347
    have St348 : Safe Z ownEL _ h348 t348 := Safe.keep K348 (sfS Sx347 sf0) P347.chv (Safe.new n348)
    have ht348 : h0.size ≤ t348 := Nat.le_trans P347.sz n348
    have nx348_y307 : ¬ y307 = x339 ∧ ¬ t307 = x339 ∧ ¬ y307 = t348 ∧ ¬ t307 = t348 := ⟨nx347_y307.1, nx347_y307.2.1, Nat.ne_of_lt (Nat.lt_of_lt_of_le L347_y307.1.lt n348), Nat.ne_of_lt (Nat.lt_of_lt_of_le L347_y307.2.2.2.1.lt n348)⟩
    have L348_y307 := L347_y307.keep K348 (ninS nx347_y307.1 nin0) (ninS nx347_y307.2.1 nin0)
    have nx348_y310 : ¬ y310 = x339 ∧ ¬ t310 = x339 ∧ ¬ y310 = t348 ∧ ¬ t310 = t348 := ⟨nx347_y310.1, nx347_y310.2.1, Nat.ne_of_lt (Nat.lt_of_lt_of_le L347_y310.1.lt n348), Nat.ne_of_lt (Nat.lt_of_lt_of_le L347_y310.2.2.2.1.lt n348)⟩
    have L348_y310 := L347_y310.keep K348 (ninS nx347_y310.1 nin0) (ninS nx347_y310.2.1 nin0)
    have nx348_y313 : ¬ y313 = x339 ∧ ¬ t313 = x339 ∧ ¬ y313 = t348 ∧ ¬ t313 = t348 := ⟨nx347_y313.1, nx347_y313.2.1, Nat.ne_of_lt (Nat.lt_of_lt_of_le L347_y313.1.lt n348), Nat.ne_of_lt (Nat.lt_of_lt_of_le L347_y313.2.2.2.1.lt n348)⟩
    have L348_y313 := L347_y313.keep K348 (ninS nx347_y313.1 nin0) (ninS nx347_y313.2.1 nin0)
    have nx348_y316 : ¬ y316 = x339 ∧ ¬ t316 = x339 ∧ ¬ y316 = t348 ∧ ¬ t316 = t348 := ⟨nx347_y316.1, nx347_y316.2.1, Nat.ne_of_lt (Nat.lt_of_lt_of_le L347_y316.1.lt n348), Nat.ne_of_lt (Nat.lt_of_lt_of_le L347_y316.2.2.2.1.lt n348)⟩
    have L348_y316 := L347_y316.keep K348 (ninS nx347_y316.1 nin0) (ninS nx347_y316.2.1 nin0)
    have nx348_y319 : ¬ y319 = x339 ∧ ¬ t319 = x339 ∧ ¬ y319 = t348 ∧ ¬ t319 = t348 := ⟨nx347_y319.1, nx347_y319.2.1, Nat.ne_of_lt (Nat.lt_of_lt_of_le L347_y319.1.lt n348), Nat.ne_of_lt (Nat.lt_of_lt_of_le L347_y319.2.2.2.1.lt n348)⟩
    have L348_y319 := L347_y319.keep K348 (ninS nx347_y319.1 nin0) (ninS nx347_y319.2.1 nin0)
    have nx348_y328 : ¬ y328 = x339 ∧ ¬ t328 = x339 ∧ ¬ y328 = t348 ∧ ¬ t328 = t348 := ⟨nx347_y328.1, nx347_y328.2.1, Nat.ne_of_lt (Nat.lt_of_lt_of_le L347_y328.1.lt n348), Nat.ne_of_lt (Nat.lt_of_lt_of_le L347_y328.2.2.2.1.lt n348)⟩
    have L348_y328 := L347_y328.keep K348 (ninS nx347_y328.1 nin0) (ninS nx347_y328.2.1 nin0)
    have nx348_y330 : ¬ y330 = x339 ∧ ¬ a330 = x339 ∧ ¬ y330 = t348 ∧ ¬ a330 = t348 := ⟨nx347_y330.1, nx347_y330.2.1, Nat.ne_of_lt (Nat.lt_of_lt_of_le L347_y330.1.lt n348), Nat.ne_of_lt (Nat.lt_of_lt_of_le L347_y330.2.2.2.1.lt n348)⟩
    have L348_y330 := L347_y330.keep K348 (ninS nx347_y330.1 nin0) (ninS nx347_y330.2.1 nin0)
    have nx348_y342 : ¬ y342 = x339 ∧ ¬ t342 = x339 ∧ ¬ y342 = t348 ∧ ¬ t342 = t348 := ⟨nx347_y342.1, nx347_y342.2.1, Nat.ne_of_lt (Nat.lt_of_lt_of_le L347_y342.1.lt n348), Nat.ne_of_lt (Nat.lt_of_lt_of_le L347_y342.2.2.2.1.lt n348)⟩
    have L348_y342 := L347_y342.keep K348 (ninS nx347_y342.1 nin0) (ninS nx347_y342.2.1 nin0)
    have nx348_y345 : ¬ y345 = x339 ∧ ¬ t345 = x339 ∧ ¬ y345 = t348 ∧ ¬ t345 = t348 := ⟨nx347_y345.1, nx347_y345.2.1, Nat.ne_of_lt (Nat.lt_of_lt_of_le L347_y345.1.lt n348), Nat.ne_of_lt (Nat.lt_of_lt_of_le L347_y345.2.2.2.1.lt n348)⟩
    have L348_y345 := L347_y345.keep K348 (ninS nx347_y345.1 nin0) (ninS nx347_y345.2.1 nin0)
    obtain ⟨g348, hg348, B348⟩ : ∃ g : Nat → Int32, (∀ i, i < 68 → g i = StrChars.lo8 (([ca, 32, 62, 32, cb, 32, 97, 110, 100, 32, 110, 111, 116, 32, 40, 97, 98, 115, 40, ca, 32, 45, 32, cb, 41, 32, 60, 61, 32, ct, 32, 42, 32, 97, 98, 115, 40, ca, 41, 32, 111, 114, 32, 97, 98, 115, 40, ca, 32, 45, 32, cb, 41, 32, 60, 61, 32, ct, 32, 42, 32, 97, 98, 115, 40, cb, 41, 41] : List Int32).getD i 0)) ∧ Sb Z h348 x339 t348 k348 136 68 g := ⟨_, own_ap1 (cs := [ca, 32, 62, 32, cb, 32, 97, 110, 100, 32, 110, 111, 116, 32, 40, 97, 98, 115, 40, ca, 32, 45, 32, cb, 41, 32, 60, 61, 32, ct, 32, 42, 32, 97, 98, 115, 40, ca, 41, 32, 111, 114, 32, 97, 98, 115, 40, ca, 32, 45, 32, cb, 41, 32, 60, 61, 32, ct, 32, 42, 32, 97, 98, 115, 40, cb, 41]) (ds := [41]) rfl rfl (own_ap2 (cnt := 67) (by decide) hg347), B348⟩
    refine P348.callV (pc1 := 213) B348.1 (wd hw (k := 158) rfl) (wd hw (k := 159) rfl) (wd hw (k := 161) rfl) (wd hw (k := 160) rfl) (notFace_of_selects (args := #[]) (mvT P348.hz (wd hw (k := 161) rfl))) (by decide) (W.MetN.pay (W := 0) (c_tos l Z a0 hw x339 t348 k348 136 68 g348 (by decide) (by decide) h348 B348 (P348.extZ EZ all0) zc fm US) P348 (wd hw (k := 162) rfl) (wd hw (k := 64) rfl) (by decide) (by decide)) (argsL := []) (st0 := []) (lenOf pd__R_Ljava_lang_String rfl) rfl rfl (Nat.le_of_eq rfl) (by rw [hml]; rfl) (by decide) (by decide) (fun _ _ _ q => by obtain ⟨_, _, _, _, q2, q3, _⟩ := q; exact ⟨q2.up P348.sz all0, CHr.ext q3 P348.chv⟩) d14_210 rfl ?_
    intro v349 T349 h349 L349 q349 P349
    obtain ⟨y349, a349, k349, rfl, f349, E349, A349, F349, C349, G349⟩ := q349
    show W.Go p.tables e below _ (T349.setTop (mkF m 213 #[.val (.ref e9), .val (.ref sa), .val (.ref sb), .val (.ref st), .val (.ref y330)] [(.ref y349)]))
    have L349_y307 := L348_y307.ext E349
    have L349_y310 := L348_y310.ext E349
    have L349_y313 := L348_y313.ext E349
    have L349_y316 := L348_y316.ext E349
    have L349_y319 := L348_y319.ext E349
    have L349_y328 := L348_y328.ext E349
    have L349_y330 := L348_y330.ext E349
    have L349_y342 := L348_y342.ext E349
    have L349_y345 := L348_y345.ext E349
    refine W.g_goto (pc1 := 326) P349.q d14_213 (by decide) rfl ?_
    have SR : W.Str Z h349 y349 (own_E2 ca cb ct) := own_toStr A349 F349 C349 G349 rfl (by decide) (fun i hi => hg348 i hi) (own_Eb2 ca cb ct ba bb bt)
    exact P349.retAW hEL hlk hret rfl rfl rfl d14_326 (by decide) (by decide) ⟨y349, rfl, P349.fr, P349.ext0, SR⟩
  · show W.Go p.tables e below _ (T331.setTop (mkF m 93 #[.val (.ref e9), .val (.ref sa), .val (.ref sb), .val (.ref st), .val (.ref y330)] [(.int (3 : Int32))]))
    refine W.g_tsw (pc1 := 216) P331.q d14_93 (by decide) rfl (by decide) rfl ?_
    refine P331.newO (pc1 := 219) (wd hw (k := 62) rfl) (wd hw (k := 63) rfl) (wd hw (k := 64) rfl) (by decide) (by decide) d14_216 rfl ?_
    intro T350 h350 x350 g350 P350 E350 A350 D350 U350
    refine W.g_dup (pc1 := 220) P350.q d14_219 rfl rfl ?_
    have Fvalue350 : Fld Z h350 x350 "java/lang/AbstractStringBuilder" "value" "[B" .null := D350 (Or.inl (wd hw (k := 77) rfl)) (ty := .array .byte) (by decide)
    have Fcoder350 : Fld Z h350 x350 "java/lang/AbstractStringBuilder" "coder" "B" (.int 0) := D350 (Or.inl (wd hw (k := 79) rfl)) (ty := .byte) (by decide)
    have Fcount350 : Fld Z h350 x350 "java/lang/AbstractStringBuilder" "count" "I" (.int 0) := D350 (Or.inl (wd hw (k := 104) rfl)) (ty := .int) (by decide)
    have hx350 : h0.size ≤ x350 := by rw [g350]; exact P331.sz
    have hzx350 : Z.heap.size ≤ x350 := Nat.le_trans EZ.1 hx350
    have Sx350 : Safe Z ownEL _ h350 x350 := Safe.exa P350.al A350 (by decide) (by decide)
    refine P350.callN (pc1 := 223) rfl (wd hw (k := 65) rfl) (wd hw (k := 66) rfl) (wd hw (k := 67) rfl) (by decide) (W.MetN.pay (W := 1) (c_sini l Z a0 hw x350 h350 A350 _ _ Fvalue350 Fcoder350 Fcount350 (P350.extZ EZ all0) zc fm US) P350 (wd hw (k := 67) rfl) (wd hw (k := 64) rfl) (by decide) (by decide)) (argsL := []) (st0 := [(.ref x350)]) (lenOf pd__R_V rfl) rfl rfl (Nat.le_of_eq rfl) (by rw [hml]; rfl) (by decide) (by decide) (fun _ _ _ q => ⟨q.2.1.up P350.sz (allS (Or.inr hx350) all0), CHr.keep q.2.2.1 (sfS Sx350 sf0) P350.chv⟩) d14_220 rfl ?_
    intro v351 T351 h351 L351 q351 P351
    obtain ⟨rfl, f351, K351, t351, k351, n351, B351⟩ := q351
    show W.Go p.tables e below _ (T351.setTop (mkF m 223 #[.val (.ref e9), .val (.ref sa), .val (.ref sb), .val (.ref st), .val (.ref y330)] [(.ref x350)]))
    have EB351 := W.Ext.keepNew E350 K351 (allS (Nat.le_of_eq g350.symm) all0)
    have Sx351 : Safe Z ownEL _ h351 x350 := Safe.keep K351 (sfS Sx350 sf0) P350.chv Sx350
    have St351 : Safe Z ownEL _ h351 t351 := Safe.keep K351 (sfS Sx350 sf0) P350.chv (Safe.new n351)
    have ht351 : h0.size ≤ t351 := Nat.le_trans P350.sz n351
    obtain ⟨g351, hg351, B351⟩ : ∃ g : Nat → Int32, (∀ i, i < 0 → g i = StrChars.lo8 (([] : List Int32).getD i 0)) ∧ Sb Z h351 x350 t351 k351 16 0 g := ⟨_, fun i hi => absurd hi (Nat.not_lt_zero i), B351⟩
    have L351_y307 := L330_y307.ext EB351
    have nx351_y307 : ¬ y307 = x350 ∧ ¬ t307 = x350 ∧ ¬ y307 = t351 ∧ ¬ t307 = t351 := by
      have q1 := L330_y307.1.lt
      have q2 := L330_y307.2.2.2.1.lt
      have q3 := E350.1
      exact ⟨Nat.ne_of_lt (by rw [g350]; exact q1), Nat.ne_of_lt (by rw [g350]; exact q2), Nat.ne_of_lt (Nat.lt_of_lt_of_le q1 (Nat.le_trans q3 n351)), Nat.ne_of_lt (Nat.lt_of_lt_of_le q2 (Nat.le_trans q3 n351))⟩
    have L351_y310 := L330_y310.ext EB351
    have nx351_y310 : ¬ y310 = x350 ∧ ¬ t310 = x350 ∧ ¬ y310 = t351 ∧ ¬ t310 = t351 := by
      have q1 := L330_y310.1.lt
      have q2 := L330_y310.2.2.2.1.lt
      have q3 := E350.1
      exact ⟨Nat.ne_of_lt (by rw [g350]; exact q1), Nat.ne_of_lt (by rw [g350]; exact q2), Nat.ne_of_lt (Nat.lt_of_lt_of_le q1 (Nat.le_trans q3 n351)), Nat.ne_of_lt (Nat.lt_of_lt_of_le q2 (Nat.le_trans q3 n351))⟩
    have L351_y313 := L330_y313.ext EB351
    have nx351_y313 : ¬ y313 = x350 ∧ ¬ t313 = x350 ∧ ¬ y313 = t351 ∧ ¬ t313 = t351 := by
      have q1 := L330_y313.1.lt
      have q2 := L330_y313.2.2.2.1.lt
      have q3 := E350.1
      exact ⟨Nat.ne_of_lt (by rw [g350]; exact q1), Nat.ne_of_lt (by rw [g350]; exact q2), Nat.ne_of_lt (Nat.lt_of_lt_of_le q1 (Nat.le_trans q3 n351)), Nat.ne_of_lt (Nat.lt_of_lt_of_le q2 (Nat.le_trans q3 n351))⟩
    have L351_y316 := L330_y316.ext EB351
    have nx351_y316 : ¬ y316 = x350 ∧ ¬ t316 = x350 ∧ ¬ y316 = t351 ∧ ¬ t316 = t351 := by
      have q1 := L330_y316.1.lt
      have q2 := L330_y316.2.2.2.1.lt
      have q3 := E350.1
      exact ⟨Nat.ne_of_lt (by rw [g350]; exact q1), Nat.ne_of_lt (by rw [g350]; exact q2), Nat.ne_of_lt (Nat.lt_of_lt_of_le q1 (Nat.le_trans q3 n351)), Nat.ne_of_lt (Nat.lt_of_lt_of_le q2 (Nat.le_trans q3 n351))⟩
    have L351_y319 := L330_y319.ext EB351
    have nx351_y319 : ¬ y319 = x350 ∧ ¬ t319 = x350 ∧ ¬ y319 = t351 ∧ ¬ t319 = t351 := by
      have q1 := L330_y319.1.lt
      have q2 := L330_y319.2.2.2.1.lt
      have q3 := E350.1
      exact ⟨Nat.ne_of_lt (by rw [g350]; exact q1), Nat.ne_of_lt (by rw [g350]; exact q2), Nat.ne_of_lt (Nat.lt_of_lt_of_le q1 (Nat.le_trans q3 n351)), Nat.ne_of_lt (Nat.lt_of_lt_of_le q2 (Nat.le_trans q3 n351))⟩
    have L351_y328 := L330_y328.ext EB351
    have nx351_y328 : ¬ y328 = x350 ∧ ¬ t328 = x350 ∧ ¬ y328 = t351 ∧ ¬ t328 = t351 := by
      have q1 := L330_y328.1.lt
      have q2 := L330_y328.2.2.2.1.lt
      have q3 := E350.1
      exact ⟨Nat.ne_of_lt (by rw [g350]; exact q1), Nat.ne_of_lt (by rw [g350]; exact q2), Nat.ne_of_lt (Nat.lt_of_lt_of_le q1 (Nat.le_trans q3 n351)), Nat.ne_of_lt (Nat.lt_of_lt_of_le q2 (Nat.le_trans q3 n351))⟩
    have L351_y330 := L4.ext EB351
    have nx351_y330 : ¬ y330 = x350 ∧ ¬ a330 = x350 ∧ ¬ y330 = t351 ∧ ¬ a330 = t351 := by
      have q1 := L4.1.lt
      have q2 := L4.2.2.2.1.lt
      have q3 := E350.1
      exact ⟨Nat.ne_of_lt (by rw [g350]; exact q1), Nat.ne_of_lt (by rw [g350]; exact q2), Nat.ne_of_lt (Nat.lt_of_lt_of_le q1 (Nat.le_trans q3 n351)), Nat.ne_of_lt (Nat.lt_of_lt_of_le q2 (Nat.le_trans q3 n351))⟩
    refine W.g_aloadN (pc1 := 224) P351.q d14_223 rfl rfl rfl ?_
    refine P351.callV (pc1 := 227) B351.1 (wd hw (k := 83) rfl) (wd hw (k := 84) rfl) (wd hw (k := 86) rfl) (wd hw (k := 85) rfl) (notFace_of_selects (args := #[]) (mvT P351.hz (wd hw (k := 86) rfl))) (by decide) (W.MetN.pay (W := 0) (c_sapp l Z a0 hw x350 t351 k351 16 0 g351 sa ta ka 1 (fun i => ([ca] : List Int32).getD i 0) h351 B351 (La.ext P351.ext0) (by decide) (P351.extZ EZ all0) zc fm US) P351 (wd hw (k := 87) rfl) (wd hw (k := 64) rfl) (by decide) (by decide)) (argsL := [(.ref sa)]) (st0 := []) (lenOf pd_Ljava_lang_String_R_Ljava_lang_StringBuilder rfl) rfl rfl (Nat.le_of_eq rfl) (by rw [hml]; rfl) (by decide) (by decide) (fun _ _ _ q => ⟨q.2.1.up P351.sz (allS (Or.inr hx350) (allS (Or.inr ht351) all0)), CHr.keep q.2.2.1 (sfS Sx351 (sfS St351 sf0)) P351.chv⟩) d14_224 rfl ?_
    intro v352 T352 h352 L352 q352 P352
    obtain ⟨rfl, f352, K352, B352⟩ := q352
    show W.Go p.tables e below _ (T352.setTop (mkF m 227 #[.val (.ref e9), .val (.ref sa), .val (.ref sb), .val (.ref st), .val (.ref y330)] [(.ref x350)]))
    have Sx352 : Safe Z ownEL _ h352 x350 := Safe.keep K352 (sfS Sx351 (sfS St351 sf0)) P351.chv Sx351
    have St352 : Safe Z ownEL _ h352 t351 := Safe.keep K352 (sfS Sx351 (sfS St351 sf0)) P351.chv St351
    have L352_y307 := L351_y307.keep K352 (ninS nx351_y307.1 (ninS nx351_y307.2.2.1 nin0)) (ninS nx351_y307.2.1 (ninS nx351_y307.2.2.2 nin0))
    have L352_y310 := L351_y310.keep K352 (ninS nx351_y310.1 (ninS nx351_y310.2.2.1 nin0)) (ninS nx351_y310.2.1 (ninS nx351_y310.2.2.2 nin0))
    have L352_y313 := L351_y313.keep K352 (ninS nx351_y313.1 (ninS nx351_y313.2.2.1 nin0)) (ninS nx351_y313.2.1 (ninS nx351_y313.2.2.2 nin0))
    have L352_y316 := L351_y316.keep K352 (ninS nx351_y316.1 (ninS nx351_y316.2.2.1 nin0)) (ninS nx351_y316.2.1 (ninS nx351_y316.2.2.2 nin0))
    have L352_y319 := L351_y319.keep K352 (ninS nx351_y319.1 (ninS nx351_y319.2.2.1 nin0)) (ninS nx351_y319.2.1 (ninS nx351_y319.2.2.2 nin0))
    have L352_y328 := L351_y328.keep K352 (ninS nx351_y328.1 (ninS nx351_y328.2.2.1 nin0)) (ninS nx351_y328.2.1 (ninS nx351_y328.2.2.2 nin0))
    have L352_y330 := L351_y330.keep K352 (ninS nx351_y330.1 (ninS nx351_y330.2.2.1 nin0)) (ninS nx351_y330.2.1 (ninS nx351_y330.2.2.2 nin0))
    obtain ⟨g352, hg352, B352⟩ : ∃ g : Nat → Int32, (∀ i, i < 1 → g i = StrChars.lo8 (([ca] : List Int32).getD i 0)) ∧ Sb Z h352 x350 t351 k351 16 1 g := ⟨_, own_ap1 (cs := []) (ds := [ca]) rfl rfl hg351, B352⟩
    refine P352.ldcK (pc1 := 229) (n := 12) (vs := [.int 32, .int 62, .int 32]) (z := 3) (wd hw (k := 219) rfl) wS hEL (by decide) ⟨by decide, by decide +kernel⟩ (by decide) (by decide) (by decide) (by decide) (by decide) (by decide) d14_227 rfl ?_
    intro y353 T353 h353 t353 k353 P353 E353 R353 A353 C353 F353 V353 N353 I353 M353
    have L353_y307 := L352_y307.ext E353
    have I353_y307 := Lit.stays I328_y307 M353
    have L353_y310 := L352_y310.ext E353
    have I353_y310 := Lit.stays I328_y310 M353
    have L353_y313 := L352_y313.ext E353
    have I353_y313 := Lit.stays I328_y313 M353
    have L353_y316 := L352_y316.ext E353
    have I353_y316 := Lit.stays I328_y316 M353
    have L353_y319 := L352_y319.ext E353
    have I353_y319 := Lit.stays I328_y319 M353
    have L353_y328 := L352_y328.ext E353
    have I353_y328 := Lit.stays I328 M353
    have L353_y330 := L352_y330.ext E353
    have LL353 : Lt Z h353 y353 t353 k353 3 (fun i => ([32, 62, 32] : List Int32).getD i 0) := ⟨A353, F353, C353, W.Arg.of 3 V353 rfl (by decide) (fun i hi => match i, hi with | 0, _ => rfl | 1, _ => rfl | 2, _ => rfl | k + 3, hk => absurd hk (Nat.not_lt.mpr (Nat.le_add_left _ _))), own_byD (cs := [32, 62, 32]) (List.forall_mem_cons.mpr ⟨(own_b 32), (List.forall_mem_cons.mpr ⟨(own_b 62), (List.forall_mem_cons.mpr ⟨(own_b 32), (fun c hc => absurd hc (List.not_mem_nil))⟩)⟩)⟩)⟩
    have B353 := B352.ext E353
    have Sx353 := R353.safe B352.1.lt Sx352
    have St353 := R353.safe B352.2.2.2.2.1.lt St352
    have nx353_y353 : ¬ y353 = x350 ∧ ¬ t353 = x350 ∧ ¬ y353 = t351 ∧ ¬ t353 = t351 := ⟨Ne.symm (N353 _ Sx353).1, Ne.symm (N353 _ Sx353).2, Ne.symm (N353 _ St353).1, Ne.symm (N353 _ St353).2⟩
    refine P353.callV (pc1 := 232) B353.1 (wd hw (k := 83) rfl) (wd hw (k := 84) rfl) (wd hw (k := 86) rfl) (wd hw (k := 85) rfl) (notFace_of_selects (args := #[]) (mvT P353.hz (wd hw (k := 86) rfl))) (by decide) (W.MetN.pay (W := 0) (c_sapp l Z a0 hw x350 t351 k351 16 1 g352 y353 t353 k353 3 (fun i => ([32, 62, 32] : List Int32).getD i 0) h353 B353 (LL353) (by decide) (P353.extZ EZ all0) zc fm US) P353 (wd hw (k := 87) rfl) (wd hw (k := 64) rfl) (by decide) (by decide)) (argsL := [(.ref y353)]) (st0 := []) (lenOf pd_Ljava_lang_String_R_Ljava_lang_StringBuilder rfl) rfl rfl (Nat.le_of_eq rfl) (by rw [hml]; rfl) (by decide) (by decide) (fun _ _ _ q => ⟨q.2.1.up P353.sz (allS (Or.inr hx350) (allS (Or.inr ht351) all0)), CHr.keep q.2.2.1 (sfS Sx353 (sfS St353 sf0)) P353.chv⟩) d14_229 rfl ?_
    intro v354 T354 h354 L354 q354 P354
    obtain ⟨rfl, f354, K354, B354⟩ := q354
    show W.Go p.tables e below _ (T354.setTop (mkF m 232 #[.val (.ref e9), .val (.ref sa), .val (.ref sb), .val (.ref st), .val (.ref y330)] [(.ref x350)]))
    have Sx354 : Safe Z ownEL _ h354 x350 := Safe.keep K354 (sfS Sx353 (sfS St353 sf0)) P353.chv Sx353
    have St354 : Safe Z ownEL _ h354 t351 := Safe.keep K354 (sfS Sx353 (sfS St353 sf0)) P353.chv St353
    have L354_y307 := L353_y307.keep K354 (ninS nx351_y307.1 (ninS nx351_y307.2.2.1 nin0)) (ninS nx351_y307.2.1 (ninS nx351_y307.2.2.2 nin0))
    have L354_y310 := L353_y310.keep K354 (ninS nx351_y310.1 (ninS nx351_y310.2.2.1 nin0)) (ninS nx351_y310.2.1 (ninS nx351_y310.2.2.2 nin0))
    have L354_y313 := L353_y313.keep K354 (ninS nx351_y313.1 (ninS nx351_y313.2.2.1 nin0)) (ninS nx351_y313.2.1 (ninS nx351_y313.2.2.2 nin0))
    have L354_y316 := L353_y316.keep K354 (ninS nx351_y316.1 (ninS nx351_y316.2.2.1 nin0)) (ninS nx351_y316.2.1 (ninS nx351_y316.2.2.2 nin0))
    have L354_y319 := L353_y319.keep K354 (ninS nx351_y319.1 (ninS nx351_y319.2.2.1 nin0)) (ninS nx351_y319.2.1 (ninS nx351_y319.2.2.2 nin0))
    have L354_y328 := L353_y328.keep K354 (ninS nx351_y328.1 (ninS nx351_y328.2.2.1 nin0)) (ninS nx351_y328.2.1 (ninS nx351_y328.2.2.2 nin0))
    have L354_y330 := L353_y330.keep K354 (ninS nx351_y330.1 (ninS nx351_y330.2.2.1 nin0)) (ninS nx351_y330.2.1 (ninS nx351_y330.2.2.2 nin0))
    have L354_y353 := LL353.keep K354 (ninS nx353_y353.1 (ninS nx353_y353.2.2.1 nin0)) (ninS nx353_y353.2.1 (ninS nx353_y353.2.2.2 nin0))
    obtain ⟨g354, hg354, B354⟩ : ∃ g : Nat → Int32, (∀ i, i < 4 → g i = StrChars.lo8 (([ca, 32, 62, 32] : List Int32).getD i 0)) ∧ Sb Z h354 x350 t351 k351 16 4 g := ⟨_, own_ap1 (cs := [ca]) (ds := [32, 62, 32]) rfl rfl hg352, B354⟩
    refine W.g_aloadN (pc1 := 233) P354.q d14_232 rfl rfl rfl ?_
    refine P354.callV (pc1 := 236) B354.1 (wd hw (k := 83) rfl) (wd hw (k := 84) rfl) (wd hw (k := 86) rfl) (wd hw (k := 85) rfl) (notFace_of_selects (args := #[]) (mvT P354.hz (wd hw (k := 86) rfl))) (by decide) (W.MetN.pay (W := 0) (c_sapp l Z a0 hw x350 t351 k351 16 4 g354 sb tb kb 1 (fun i => ([cb] : List Int32).getD i 0) h354 B354 (Lb.ext P354.ext0) (by decide) (P354.extZ EZ all0) zc fm US) P354 (wd hw (k := 87) rfl) (wd hw (k := 64) rfl) (by decide) (by decide)) (argsL := [(.ref sb)]) (st0 := []) (lenOf pd_Ljava_lang_String_R_Ljava_lang_StringBuilder rfl) rfl rfl (Nat.le_of_eq rfl) (by rw [hml]; rfl) (by decide) (by decide) (fun _ _ _ q => ⟨q.2.1.up P354.sz (allS (Or.inr hx350) (allS (Or.inr ht351) all0)), CHr.keep q.2.2.1 (sfS Sx354 (sfS St354 sf0)) P354.chv⟩) d14_233 rfl ?_
    intro v355 T355 h355 L355 q355 P355
    obtain ⟨rfl, f355, K355, B355⟩ := q355
    show W.Go p.tables e below _ (T355.setTop (mkF m 236 #[.val (.ref e9), .val (.ref sa), .val (.ref sb), .val (.ref st), .val (.ref y330)] [(.ref x350)]))
    have Sx355 : Safe Z ownEL _ h355 x350 := Safe.keep K355 (sfS Sx354 (sfS St354 sf0)) P354.chv Sx354
    have St355 : Safe Z ownEL _ h355 t351 := Safe.keep K355 (sfS Sx354 (sfS St354 sf0)) P354.chv St354
    have L355_y307 := L354_y307.keep K355 (ninS nx351_y307.1 (ninS nx351_y307.2.2.1 nin0)) (ninS nx351_y307.2.1 (ninS nx351_y307.2.2.2 nin0))
    have L355_y310 := L354_y310.keep K355 (ninS nx351_y310.1 (ninS nx351_y310.2.2.1 nin0)) (ninS nx351_y310.2.1 (ninS nx351_y310.2.2.2 nin0))
    have L355_y313 := L354_y313.keep K355 (ninS nx351_y313.1 (ninS nx351_y313.2.2.1 nin0)) (ninS nx351_y313.2.1 (ninS nx351_y313.2.2.2 nin0))
    have L355_y316 := L354_y316.keep K355 (ninS nx351_y316.1 (ninS nx351_y316.2.2.1 nin0)) (ninS nx351_y316.2.1 (ninS nx351_y316.2.2.2 nin0))
    have L355_y319 := L354_y319.keep K355 (ninS nx351_y319.1 (ninS nx351_y319.2.2.1 nin0)) (ninS nx351_y319.2.1 (ninS nx351_y319.2.2.2 nin0))
    have L355_y328 := L354_y328.keep K355 (ninS nx351_y328.1 (ninS nx351_y328.2.2.1 nin0)) (ninS nx351_y328.2.1 (ninS nx351_y328.2.2.2 nin0))
    have L355_y330 := L354_y330.keep K355 (ninS nx351_y330.1 (ninS nx351_y330.2.2.1 nin0)) (ninS nx351_y330.2.1 (ninS nx351_y330.2.2.2 nin0))
    have L355_y353 := L354_y353.keep K355 (ninS nx353_y353.1 (ninS nx353_y353.2.2.1 nin0)) (ninS nx353_y353.2.1 (ninS nx353_y353.2.2.2 nin0))
    obtain ⟨g355, hg355, B355⟩ : ∃ g : Nat → Int32, (∀ i, i < 5 → g i = StrChars.lo8 (([ca, 32, 62, 32, cb] : List Int32).getD i 0)) ∧ Sb Z h355 x350 t351 k351 16 5 g := ⟨_, own_ap1 (cs := [ca, 32, 62, 32]) (ds := [cb]) rfl rfl hg354, B355⟩
    refine P355.ldcK (pc1 := 238) (n := 16) (vs := [.int 32, .int 111, .int 114, .int 32]) (z := 4) (wd hw (k := 223) rfl) wS hEL (by decide) ⟨by decide, by decide +kernel⟩ (by decide) (by decide) (by decide) (by decide) (by decide) (by decide) d14_236 rfl ?_
    intro y356 T356 h356 t356 k356 P356 E356 R356 A356 C356 F356 V356 N356 I356 M356
    have L356_y307 := L355_y307.ext E356
    have I356_y307 := Lit.stays I353_y307 M356
    have L356_y310 := L355_y310.ext E356
    have I356_y310 := Lit.stays I353_y310 M356
    have L356_y313 := L355_y313.ext E356
    have I356_y313 := Lit.stays I353_y313 M356
    have L356_y316 := L355_y316.ext E356
    have I356_y316 := Lit.stays I353_y316 M356
    have L356_y319 := L355_y319.ext E356
    have I356_y319 := Lit.stays I353_y319 M356
    have L356_y328 := L355_y328.ext E356
    have I356_y328 := Lit.stays I353_y328 M356
    have L356_y330 := L355_y330.ext E356
    have L356_y353 := L355_y353.ext E356
    have I356_y353 := Lit.stays I353 M356
    have LL356 : Lt Z h356 y356 t356 k356 4 (fun i => ([32, 111, 114, 32] : List Int32).getD i 0) := ⟨A356, F356, C356, W.Arg.of 4 V356 rfl (by decide) (fun i hi => match i, hi with | 0, _ => rfl | 1, _ => rfl | 2, _ => rfl | 3, _ => rfl | k + 4, hk => absurd hk (Nat.not_lt.mpr (Nat.le_add_left _ _))), own_byD (cs := [32, 111, 114, 32]) (List.forall_mem_cons.mpr ⟨(own_b 32), (List.forall_mem_cons.mpr ⟨(own_b 111), (List.forall_mem_cons.mpr ⟨(own_b 114), (List.forall_mem_cons.mpr ⟨(own_b 32), (fun c hc => absurd hc (List.not_mem_nil))⟩)⟩)⟩)⟩)⟩
    have B356 := B355.ext E356
    have Sx356 := R356.safe B355.1.lt Sx355
    have St356 := R356.safe B355.2.2.2.2.1.lt St355
    have nx356_y356 : ¬ y356 = x350 ∧ ¬ t356 = x350 ∧ ¬ y356 = t351 ∧ ¬ t356 = t351 := ⟨Ne.symm (N356 _ Sx356).1, Ne.symm (N356 _ Sx356).2, Ne.symm (N356 _ St356).1, Ne.symm (N356 _ St356).2⟩
    refine P356.callV (pc1 := 241) B356.1 (wd hw (k := 83) rfl) (wd hw (k := 84) rfl) (wd hw (k := 86) rfl) (wd hw (k := 85) rfl) (notFace_of_selects (args := #[]) (mvT P356.hz (wd hw (k := 86) rfl))) (by decide) (W.MetN.pay (W := 0) (c_sapp l Z a0 hw x350 t351 k351 16 5 g355 y356 t356 k356 4 (fun i => ([32, 111, 114, 32] : List Int32).getD i 0) h356 B356 (LL356) (by decide) (P356.extZ EZ all0) zc fm US) P356 (wd hw (k := 87) rfl) (wd hw (k := 64) rfl) (by decide) (by decide)) (argsL := [(.ref y356)]) (st0 := []) (lenOf pd_Ljava_lang_String_R_Ljava_lang_StringBuilder rfl) rfl rfl (Nat.le_of_eq rfl) (by rw [hml]; rfl) (by decide) (by decide) (fun _ _ _ q => ⟨q.2.1.up P356.sz (allS (Or.inr hx350) (allS (Or.inr ht351) all0)), CHr.keep q.2.2.1 (sfS Sx356 (sfS St356 sf0)) P356.chv⟩) d14_238 rfl ?_
    intro v357 T357 h357 L357 q357 P357
    obtain ⟨rfl, f357, K357, B357⟩ := q357
    show W.Go p.tables e below _ (T357.setTop (mkF m 241 #[.val (.ref e9), .val (.ref sa), .val (.ref sb), .val (.ref st), .val (.ref y330)] [(.ref x350)]))
    have Sx357 : Safe Z ownEL _ h357 x350 := Safe.keep K357 (sfS Sx356 (sfS St356 sf0)) P356.chv Sx356
    have St357 : Safe Z ownEL _ h357 t351 := Safe.keep K357 (sfS Sx356 (sfS St356 sf0)) P356.chv St356
    have L357_y307 := L356_y307.keep K357 (ninS nx351_y307.1 (ninS nx351_y307.2.2.1 nin0)) (ninS nx351_y307.2.1 (ninS nx351_y307.2.2.2 nin0))
    have L357_y310 := L356_y310.keep K357 (ninS nx351_y310.1 (ninS nx351_y310.2.2.1 nin0)) (ninS nx351_y310.2.1 (ninS nx351_y310.2.2.2 nin0))
    have L357_y313 := L356_y313.keep K357 (ninS nx351_y313.1 (ninS nx351_y313.2.2.1 nin0)) (ninS nx351_y313.2.1 (ninS nx351_y313.2.2.2 nin0))
    have L357_y316 := L356_y316.keep K357 (ninS nx351_y316.1 (ninS nx351_y316.2.2.1 nin0)) (ninS nx351_y316.2.1 (ninS nx351_y316.2.2.2 nin0))
    have L357_y319 := L356_y319.keep K357 (ninS nx351_y319.1 (ninS nx351_y319.2.2.1 nin0)) (ninS nx351_y319.2.1 (ninS nx351_y319.2.2.2 nin0))
    have L357_y328 := L356_y328.keep K357 (ninS nx351_y328.1 (ninS nx351_y328.2.2.1 nin0)) (ninS nx351_y328.2.1 (ninS nx351_y328.2.2.2 nin0))
    have L357_y330 := L356_y330.keep K357 (ninS nx351_y330.1 (ninS nx351_y330.2.2.1 nin0)) (ninS nx351_y330.2.1 (ninS nx351_y330.2.2.2 nin0))
    have L357_y353 := L356_y353.keep K357 (ninS nx353_y353.1 (ninS nx353_y353.2.2.1 nin0)) (ninS nx353_y353.2.1 (ninS nx353_y353.2.2.2 nin0))
    have L357_y356 := LL356.keep K357 (ninS nx356_y356.1 (ninS nx356_y356.2.2.1 nin0)) (ninS nx356_y356.2.1 (ninS nx356_y356.2.2.2 nin0))
    obtain ⟨g357, hg357, B357⟩ : ∃ g : Nat → Int32, (∀ i, i < 9 → g i = StrChars.lo8 (([ca, 32, 62, 32, cb, 32, 111, 114, 32] : List Int32).getD i 0)) ∧ Sb Z h357 x350 t351 k351 16 9 g := ⟨_, own_ap1 (cs := [ca, 32, 62, 32, cb]) (ds := [32, 111, 114, 32]) rfl rfl hg355, B357⟩
    refine W.g_aload (pc1 := 243) P357.q d14_241 rfl rfl rfl ?_
    refine P357.callV (pc1 := 246) B357.1 (wd hw (k := 83) rfl) (wd hw (k := 84) rfl) (wd hw (k := 86) rfl) (wd hw (k := 85) rfl) (notFace_of_selects (args := #[]) (mvT P357.hz (wd hw (k := 86) rfl))) (by decide) (W.MetN.pay (W := 0) (c_sappg l Z a0 hw x350 t351 k351 16 9 g357 y330 a330 k330 52 (fun i => ([97, 98, 115, 40, ca, 32, 45, 32, cb, 41, 32, 60, 61, 32, ct, 32, 42, 32, 97, 98, 115, 40, ca, 41, 32, 111, 114, 32, 97, 98, 115, 40, ca, 32, 45, 32, cb, 41, 32, 60, 61, 32, ct, 32, 42, 32, 97, 98, 115, 40, cb, 41] : List Int32).getD i 0) h357 B357 (L357_y330) 61 (by decide) (by decide) (by decide) nx351_y330.1 nx351_y330.2.1 hzx350 (P357.extZ EZ all0) zc fm US) P357 (wd hw (k := 87) rfl) (wd hw (k := 64) rfl) (by decide) (by decide)) (argsL := [(.ref y330)]) (st0 := []) (lenOf pd_Ljava_lang_String_R_Ljava_lang_StringBuilder rfl) rfl rfl (Nat.le_of_eq rfl) (by rw [hml]; rfl) (by decide) (by decide) (fun _ _ _ q => ⟨q.2.1.up P357.sz (allS (Or.inr hx350) all0), CHr.keep q.2.2.1 (sfS Sx357 sf0) P357.chv⟩) d14_243 rfl ?_
    intro v358 T358 h358 L358 q358 P358
    obtain ⟨rfl, f358, K358, t358, k358, n358, B358⟩ := q358
    show W.Go p.tables e below _ (T358.setTop (mkF m 246 #[.val (.ref e9), .val (.ref sa), .val (.ref sb), .val (.ref st), .val (.ref y330)] [(.ref x350)]))
    have Sx358 : Safe Z ownEL _ h358 x350 := Safe.keep K358 (sfS Sx357 sf0) P357.chv Sx357
    have St358 : Safe Z ownEL _ h358 t358 := Safe.keep K358 (sfS Sx357 sf0) P357.chv (Safe.new n358)
    have ht358 : h0.size ≤ t358 := Nat.le_trans P357.sz n358
    have nx358_y307 : ¬ y307 = x350 ∧ ¬ t307 = x350 ∧ ¬ y307 = t358 ∧ ¬ t307 = t358 := ⟨nx351_y307.1, nx351_y307.2.1, Nat.ne_of_lt (Nat.lt_of_lt_of_le L357_y307.1.lt n358), Nat.ne_of_lt (Nat.lt_of_lt_of_le L357_y307.2.2.2.1.lt n358)⟩
    have L358_y307 := L357_y307.keep K358 (ninS nx351_y307.1 nin0) (ninS nx351_y307.2.1 nin0)
    have nx358_y310 : ¬ y310 = x350 ∧ ¬ t310 = x350 ∧ ¬ y310 = t358 ∧ ¬ t310 = t358 := ⟨nx351_y310.1, nx351_y310.2.1, Nat.ne_of_lt (Nat.lt_of_lt_of_le L357_y310.1.lt n358), Nat.ne_of_lt (Nat.lt_of_lt_of_le L357_y310.2.2.2.1.lt n358)⟩
    have L358_y310 := L357_y310.keep K358 (ninS nx351_y310.1 nin0) (ninS nx351_y310.2.1 nin0)
    have nx358_y313 : ¬ y313 = x350 ∧ ¬ t313 = x350 ∧ ¬ y313 = t358 ∧ ¬ t313 = t358 := ⟨nx351_y313.1, nx351_y313.2.1, Nat.ne_of_lt (Nat.lt_of_lt_of_le L357_y313.1.lt n358), Nat.ne_of_lt (Nat.lt_of_lt_of_le L357_y313.2.2.2.1.lt n358)⟩
    have L358_y313 := L357_y313.keep K358 (ninS nx351_y313.1 nin0) (ninS nx351_y313.2.1 nin0)
    have nx358_y316 : ¬ y316 = x350 ∧ ¬ t316 = x350 ∧ ¬ y316 = t358 ∧ ¬ t316 = t358 := ⟨nx351_y316.1, nx351_y316.2.1, Nat.ne_of_lt (Nat.lt_of_lt_of_le L357_y316.1.lt n358), Nat.ne_of_lt (Nat.lt_of_lt_of_le L357_y316.2.2.2.1.lt n358)⟩
    have L358_y316 := L357_y316.keep K358 (ninS nx351_y316.1 nin0) (ninS nx351_y316.2.1 nin0)
    have nx358_y319 : ¬ y319 = x350 ∧ ¬ t319 = x350 ∧ ¬ y319 = t358 ∧ ¬ t319 = t358 := ⟨nx351_y319.1, nx351_y319.2.1, Nat.ne_of_lt (Nat.lt_of_lt_of_le L357_y319.1.lt n358), Nat.ne_of_lt (Nat.lt_of_lt_of_le L357_y319.2.2.2.1.lt n358)⟩
    have L358_y319 := L357_y319.keep K358 (ninS nx351_y319.1 nin0) (ninS nx351_y319.2.1 nin0)
    have nx358_y328 : ¬ y328 = x350 ∧ ¬ t328 = x350 ∧ ¬ y328 = t358 ∧ ¬ t328 = t358 := ⟨nx351_y328.1, nx351_y328.2.1, Nat.ne_of_lt (Nat.lt_of_lt_of_le L357_y328.1.lt n358), Nat.ne_of_lt (Nat.lt_of_lt_of_le L357_y328.2.2.2.1.lt n358)⟩
    have L358_y328 := L357_y328.keep K358 (ninS nx351_y328.1 nin0) (ninS nx351_y328.2.1 nin0)
    have nx358_y330 : ¬ y330 = x350 ∧ ¬ a330 = x350 ∧ ¬ y330 = t358 ∧ ¬ a330 = t358 := ⟨nx351_y330.1, nx351_y330.2.1, Nat.ne_of_lt (Nat.lt_of_lt_of_le L357_y330.1.lt n358), Nat.ne_of_lt (Nat.lt_of_lt_of_le L357_y330.2.2.2.1.lt n358)⟩
    have L358_y330 := L357_y330.keep K358 (ninS nx351_y330.1 nin0) (ninS nx351_y330.2.1 nin0)
    have nx358_y353 : ¬ y353 = x350 ∧ ¬ t353 = x350 ∧ ¬ y353 = t358 ∧ ¬ t353 = t358 := ⟨nx353_y353.1, nx353_y353.2.1, Nat.ne_of_lt (Nat.lt_of_lt_of_le L357_y353.1.lt n358), Nat.ne_of_lt (Nat.lt_of_lt_of_le L357_y353.2.2.2.1.lt n358)⟩
    have L358_y353 := L357_y353.keep K358 (ninS nx353_y353.1 nin0) (ninS nx353_y353.2.1 nin0)
    have nx358_y356 : ¬ y356 = x350 ∧ ¬ t356 = x350 ∧ ¬ y356 = t358 ∧ ¬ t356 = t358 := ⟨nx356_y356.1, nx356_y356.2.1, Nat.ne_of_lt (Nat.lt_of_lt_of_le L357_y356.1.lt n358), Nat.ne_of_lt (Nat.lt_of_lt_of_le L357_y356.2.2.2.1.lt n358)⟩
    have L358_y356 := L357_y356.keep K358 (ninS nx356_y356.1 nin0) (ninS nx356_y356.2.1 nin0)
    obtain ⟨g358, hg358, B358⟩ : ∃ g : Nat → Int32, (∀ i, i < 61 → g i = StrChars.lo8 (([ca, 32, 62, 32, cb, 32, 111, 114, 32, 97, 98, 115, 40, ca, 32, 45, 32, cb, 41, 32, 60, 61, 32, ct, 32, 42, 32, 97, 98, 115, 40, ca, 41, 32, 111, 114, 32, 97, 98, 115, 40, ca, 32, 45, 32, cb, 41, 32, 60, 61, 32, ct, 32, 42, 32, 97, 98, 115, 40, cb, 41] : List Int32).getD i 0)) ∧ Sb Z h358 x350 t358 k358 61 61 g := ⟨_, own_ap1 (cs := [ca, 32, 62, 32, cb, 32, 111, 114, 32]) (ds := [97, 98, 115, 40, ca, 32, 45, 32, cb, 41, 32, 60, 61, 32, ct, 32, 42, 32, 97, 98, 115, 40, ca, 41, 32, 111, 114, 32, 97, 98, 115, 40, ca, 32, 45, 32, cb, 41, 32, 60, 61, 32, ct, 32, 42, 32, 97, 98, 115, 40, cb, 41]) rfl rfl (own_ap2 (cnt := 9) (by decide) hg357), B358⟩
    refine P358.callV (pc1 := 249) B358.1 (wd hw (k := 158) rfl) (wd hw (k := 159) rfl) (wd hw (k := 161) rfl) (wd hw (k := 160) rfl) (notFace_of_selects (args := #[]) (mvT P358.hz (wd hw (k := 161) rfl))) (by decide) (W.MetN.pay (W := 0) (c_tos l Z a0 hw x350 t358 k358 61 61 g358 (by decide) (by decide) h358 B358 (P358.extZ EZ all0) zc fm US) P358 (wd hw (k := 162) rfl) (wd hw (k := 64) rfl) (by decide) (by decide)) (argsL := []) (st0 := []) (lenOf pd__R_Ljava_lang_String rfl) rfl rfl (Nat.le_of_eq rfl) (by rw [hml]; rfl) (by decide) (by decide) (fun _ _ _ q => by obtain ⟨_, _, _, _, q2, q3, _⟩ := q; exact ⟨q2.up P358.sz all0, CHr.ext q3 P358.chv⟩) d14_246 rfl ?_
    intro v359 T359 h359 L359 q359 P359
    obtain ⟨y359, a359, k359, rfl, f359, E359, A359, F359, C359, G359⟩ := q359
    show W.Go p.tables e below _ (T359.setTop (mkF m 249 #[.val (.ref e9), .val (.ref sa), .val (.ref sb), .val (.ref st), .val (.ref y330)] [(.ref y359)]))
    have L359_y307 := L358_y307.ext E359
    have L359_y310 := L358_y310.ext E359
    have L359_y313 := L358_y313.ext E359
    have L359_y316 := L358_y316.ext E359
    have L359_y319 := L358_y319.ext E359
    have L359_y328 := L358_y328.ext E359
    have L359_y330 := L358_y330.ext E359
    have L359_y353 := L358_y353.ext E359
    have L359_y356 := L358_y356.ext E359
    refine W.g_goto (pc1 := 326) P359.q d14_249 (by decide) rfl ?_
    have SR : W.Str Z h359 y359 (own_E3 ca cb ct) := own_toStr A359 F359 C359 G359 rfl (by decide) (fun i hi => hg358 i hi) (own_Eb3 ca cb ct ba bb bt)
    exact P359.retAW hEL hlk hret rfl rfl rfl d14_326 (by decide) (by decide) ⟨y359, rfl, P359.fr, P359.ext0, SR⟩
  · show W.Go p.tables e below _ (T331.setTop (mkF m 93 #[.val (.ref e9), .val (.ref sa), .val (.ref sb), .val (.ref st), .val (.ref y330)] [(.int (4 : Int32))]))
    refine W.g_tsw (pc1 := 252) P331.q d14_93 (by decide) rfl (by decide) rfl ?_
    refine P331.newO (pc1 := 255) (wd hw (k := 62) rfl) (wd hw (k := 63) rfl) (wd hw (k := 64) rfl) (by decide) (by decide) d14_252 rfl ?_
    intro T360 h360 x360 g360 P360 E360 A360 D360 U360
    refine W.g_dup (pc1 := 256) P360.q d14_255 rfl rfl ?_
    have Fvalue360 : Fld Z h360 x360 "java/lang/AbstractStringBuilder" "value" "[B" .null := D360 (Or.inl (wd hw (k := 77) rfl)) (ty := .array .byte) (by decide)
    have Fcoder360 : Fld Z h360 x360 "java/lang/AbstractStringBuilder" "coder" "B" (.int 0) := D360 (Or.inl (wd hw (k := 79) rfl)) (ty := .byte) (by decide)
    have Fcount360 : Fld Z h360 x360 "java/lang/AbstractStringBuilder" "count" "I" (.int 0) := D360 (Or.inl (wd hw (k := 104) rfl)) (ty := .int) (by decide)
    have hx360 : h0.size ≤ x360 := by rw [g360]; exact P331.sz
    have hzx360 : Z.heap.size ≤ x360 := Nat.le_trans EZ.1 hx360
    have Sx360 : Safe Z ownEL _ h360 x360 := Safe.exa P360.al A360 (by decide) (by decide)
    refine P360.callN (pc1 := 259) rfl (wd hw (k := 65) rfl) (wd hw (k := 66) rfl) (wd hw (k := 67) rfl) (by decide) (W.MetN.pay (W := 1) (c_sini l Z a0 hw x360 h360 A360 _ _ Fvalue360 Fcoder360 Fcount360 (P360.extZ EZ all0) zc fm US) P360 (wd hw (k := 67) rfl) (wd hw (k := 64) rfl) (by decide) (by decide)) (argsL := []) (st0 := [(.ref x360)]) (lenOf pd__R_V rfl) rfl rfl (Nat.le_of_eq rfl) (by rw [hml]; rfl) (by decide) (by decide) (fun _ _ _ q => ⟨q.2.1.up P360.sz (allS (Or.inr hx360) all0), CHr.keep q.2.2.1 (sfS Sx360 sf0) P360.chv⟩) d14_256 rfl ?_
    intro v361 T361 h361 L361 q361 P361
    obtain ⟨rfl, f361, K361, t361, k361, n361, B361⟩ := q361
    show W.Go p.tables e below _ (T361.setTop (mkF m 259 #[.val (.ref e9), .val (.ref sa), .val (.ref sb), .val (.ref st), .val (.ref y330)] [(.ref x360)]))
    have EB361 := W.Ext.keepNew E360 K361 (allS (Nat.le_of_eq g360.symm) all0)
    have Sx361 : Safe Z ownEL _ h361 x360 := Safe.keep K361 (sfS Sx360 sf0) P360.chv Sx360
    have St361 : Safe Z ownEL _ h361 t361 := Safe.keep K361 (sfS Sx360 sf0) P360.chv (Safe.new n361)
    have ht361 : h0.size ≤ t361 := Nat.le_trans P360.sz n361
    obtain ⟨g361, hg361, B361⟩ : ∃ g : Nat → Int32, (∀ i, i < 0 → g i = StrChars.lo8 (([] : List Int32).getD i 0)) ∧ Sb Z h361 x360 t361 k361 16 0 g := ⟨_, fun i hi => absurd hi (Nat.not_lt_zero i), B361⟩
    have L361_y307 := L330_y307.ext EB361
    have nx361_y307 : ¬ y307 = x360 ∧ ¬ t307 = x360 ∧ ¬ y307 = t361 ∧ ¬ t307 = t361 := by
      have q1 := L330_y307.1.lt
      have q2 := L330_y307.2.2.2.1.lt
      have q3 := E360.1
      exact ⟨Nat.ne_of_lt (by rw [g360]; exact q1), Nat.ne_of_lt (by rw [g360]; exact q2), Nat.ne_of_lt (Nat.lt_of_lt_of_le q1 (Nat.le_trans q3 n361)), Nat.ne_of_lt (Nat.lt_of_lt_of_le q2 (Nat.le_trans q3 n361))⟩
    have L361_y310 := L330_y310.ext EB361
    have nx361_y310 : ¬ y310 = x360 ∧ ¬ t310 = x360 ∧ ¬ y310 = t361 ∧ ¬ t310 = t361 := by
      have q1 := L330_y310.1.lt
      have q2 := L330_y310.2.2.2.1.lt
      have q3 := E360.1
      exact ⟨Nat.ne_of_lt (by rw [g360]; exact q1), Nat.ne_of_lt (by rw [g360]; exact q2), Nat.ne_of_lt (Nat.lt_of_lt_of_le q1 (Nat.le_trans q3 n361)), Nat.ne_of_lt (Nat.lt_of_lt_of_le q2 (Nat.le_trans q3 n361))⟩
    have L361_y313 := L330_y313.ext EB361
    have nx361_y313 : ¬ y313 = x360 ∧ ¬ t313 = x360 ∧ ¬ y313 = t361 ∧ ¬ t313 = t361 := by
      have q1 := L330_y313.1.lt
      have q2 := L330_y313.2.2.2.1.lt
      have q3 := E360.1
      exact ⟨Nat.ne_of_lt (by rw [g360]; exact q1), Nat.ne_of_lt (by rw [g360]; exact q2), Nat.ne_of_lt (Nat.lt_of_lt_of_le q1 (Nat.le_trans q3 n361)), Nat.ne_of_lt (Nat.lt_of_lt_of_le q2 (Nat.le_trans q3 n361))⟩
    have L361_y316 := L330_y316.ext EB361
    have nx361_y316 : ¬ y316 = x360 ∧ ¬ t316 = x360 ∧ ¬ y316 = t361 ∧ ¬ t316 = t361 := by
      have q1 := L330_y316.1.lt
      have q2 := L330_y316.2.2.2.1.lt
      have q3 := E360.1
      exact ⟨Nat.ne_of_lt (by rw [g360]; exact q1), Nat.ne_of_lt (by rw [g360]; exact q2), Nat.ne_of_lt (Nat.lt_of_lt_of_le q1 (Nat.le_trans q3 n361)), Nat.ne_of_lt (Nat.lt_of_lt_of_le q2 (Nat.le_trans q3 n361))⟩
    have L361_y319 := L330_y319.ext EB361
    have nx361_y319 : ¬ y319 = x360 ∧ ¬ t319 = x360 ∧ ¬ y319 = t361 ∧ ¬ t319 = t361 := by
      have q1 := L330_y319.1.lt
      have q2 := L330_y319.2.2.2.1.lt
      have q3 := E360.1
      exact ⟨Nat.ne_of_lt (by rw [g360]; exact q1), Nat.ne_of_lt (by rw [g360]; exact q2), Nat.ne_of_lt (Nat.lt_of_lt_of_le q1 (Nat.le_trans q3 n361)), Nat.ne_of_lt (Nat.lt_of_lt_of_le q2 (Nat.le_trans q3 n361))⟩
    have L361_y328 := L330_y328.ext EB361
    have nx361_y328 : ¬ y328 = x360 ∧ ¬ t328 = x360 ∧ ¬ y328 = t361 ∧ ¬ t328 = t361 := by
      have q1 := L330_y328.1.lt
      have q2 := L330_y328.2.2.2.1.lt
      have q3 := E360.1
      exact ⟨Nat.ne_of_lt (by rw [g360]; exact q1), Nat.ne_of_lt (by rw [g360]; exact q2), Nat.ne_of_lt (Nat.lt_of_lt_of_le q1 (Nat.le_trans q3 n361)), Nat.ne_of_lt (Nat.lt_of_lt_of_le q2 (Nat.le_trans q3 n361))⟩
    have L361_y330 := L4.ext EB361
    have nx361_y330 : ¬ y330 = x360 ∧ ¬ a330 = x360 ∧ ¬ y330 = t361 ∧ ¬ a330 = t361 := by
      have q1 := L4.1.lt
      have q2 := L4.2.2.2.1.lt
      have q3 := E360.1
      exact ⟨Nat.ne_of_lt (by rw [g360]; exact q1), Nat.ne_of_lt (by rw [g360]; exact q2), Nat.ne_of_lt (Nat.lt_of_lt_of_le q1 (Nat.le_trans q3 n361)), Nat.ne_of_lt (Nat.lt_of_lt_of_le q2 (Nat.le_trans q3 n361))⟩
    refine W.g_aloadN (pc1 := 260) P361.q d14_259 rfl rfl rfl ?_
    refine P361.callV (pc1 := 263) B361.1 (wd hw (k := 83) rfl) (wd hw (k := 84) rfl) (wd hw (k := 86) rfl) (wd hw (k := 85) rfl) (notFace_of_selects (args := #[]) (mvT P361.hz (wd hw (k := 86) rfl))) (by decide) (W.MetN.pay (W := 0) (c_sapp l Z a0 hw x360 t361 k361 16 0 g361 sa ta ka 1 (fun i => ([ca] : List Int32).getD i 0) h361 B361 (La.ext P361.ext0) (by decide) (P361.extZ EZ all0) zc fm US) P361 (wd hw (k := 87) rfl) (wd hw (k := 64) rfl) (by decide) (by decide)) (argsL := [(.ref sa)]) (st0 := []) (lenOf pd_Ljava_lang_String_R_Ljava_lang_StringBuilder rfl) rfl rfl (Nat.le_of_eq rfl) (by rw [hml]; rfl) (by decide) (by decide) (fun _ _ _ q => ⟨q.2.1.up P361.sz (allS (Or.inr hx360) (allS (Or.inr ht361) all0)), CHr.keep q.2.2.1 (sfS Sx361 (sfS St361 sf0)) P361.chv⟩) d14_260 rfl ?_
    intro v362 T362 h362 L362 q362 P362
    obtain ⟨rfl, f362, K362, B362⟩ := q362
    show W.Go p.tables e below _ (T362.setTop (mkF m 263 #[.val (.ref e9), .val (.ref sa), .val (.ref sb), .val (.ref st), .val (.ref y330)] [(.ref x360)]))
    have Sx362 : Safe Z ownEL _ h362 x360 := Safe.keep K362 (sfS Sx361 (sfS St361 sf0)) P361.chv Sx361
    have St362 : Safe Z ownEL _ h362 t361 := Safe.keep K362 (sfS Sx361 (sfS St361 sf0)) P361.chv St361
    have L362_y307 := L361_y307.keep K362 (ninS nx361_y307.1 (ninS nx361_y307.2.2.1 nin0)) (ninS nx361_y307.2.1 (ninS nx361_y307.2.2.2 nin0))
    have L362_y310 := L361_y310.keep K362 (ninS nx361_y310.1 (ninS nx361_y310.2.2.1 nin0)) (ninS nx361_y310.2.1 (ninS nx361_y310.2.2.2 nin0))
    have L362_y313 := L361_y313.keep K362 (ninS nx361_y313.1 (ninS nx361_y313.2.2.1 nin0)) (ninS nx361_y313.2.1 (ninS nx361_y313.2.2.2 nin0))
    have L362_y316 := L361_y316.keep K362 (ninS nx361_y316.1 (ninS nx361_y316.2.2.1 nin0)) (ninS nx361_y316.2.1 (ninS nx361_y316.2.2.2 nin0))
    have L362_y319 := L361_y319.keep K362 (ninS nx361_y319.1 (ninS nx361_y319.2.2.1 nin0)) (ninS nx361_y319.2.1 (ninS nx361_y319.2.2.2 nin0))
    have L362_y328 := L361_y328.keep K362 (ninS nx361_y328.1 (ninS nx361_y328.2.2.1 nin0)) (ninS nx361_y328.2.1 (ninS nx361_y328.2.2.2 nin0))
    have L362_y330 := L361_y330.keep K362 (ninS nx361_y330.1 (ninS nx361_y330.2.2.1 nin0)) (ninS nx361_y330.2.1 (ninS nx361_y330.2.2.2 nin0))
    obtain ⟨g362, hg362, B362⟩ : ∃ g : Nat → Int32, (∀ i, i < 1 → g i = StrChars.lo8 (([ca] : List Int32).getD i 0)) ∧ Sb Z h362 x360 t361 k361 16 1 g := ⟨_, own_ap1 (cs := []) (ds := [ca]) rfl rfl hg361, B362⟩
    refine P362.ldcK (pc1 := 265) (n := 12) (vs := [.int 32, .int 60, .int 32]) (z := 3) (wd hw (k := 235) rfl) wS hEL (by decide) ⟨by decide, by decide +kernel⟩ (by decide) (by decide) (by decide) (by decide) (by decide) (by decide) d14_263 rfl ?_
    intro y363 T363 h363 t363 k363 P363 E363 R363 A363 C363 F363 V363 N363 I363 M363
    have L363_y307 := L362_y307.ext E363
    have I363_y307 := Lit.stays I328_y307 M363
    have L363_y310 := L362_y310.ext E363
    have I363_y310 := Lit.stays I328_y310 M363
    have L363_y313 := L362_y313.ext E363
    have I363_y313 := Lit.stays I328_y313 M363
    have L363_y316 := L362_y316.ext E363
    have I363_y316 := Lit.stays I328_y316 M363
    have L363_y319 := L362_y319.ext E363
    have I363_y319 := Lit.stays I328_y319 M363
    have L363_y328 := L362_y328.ext E363
    have I363_y328 := Lit.stays I328 M363
    have L363_y330 := L362_y330.ext E363
    have LL363 : Lt Z h363 y363 t363 k363 3 (fun i => ([32, 60, 32] : List Int32).getD i 0) := ⟨A363, F363, C363, W.Arg.of 3 V363 rfl (by decide) (fun i hi => match i, hi with | 0, _ => rfl | 1, _ => rfl | 2, _ => rfl | k + 3, hk => absurd hk (Nat.not_lt.mpr (Nat.le_add_left _ _))), own_byD (cs := [32, 60, 32]) (List.forall_mem_cons.mpr ⟨(own_b 32), (List.forall_mem_cons.mpr ⟨(own_b 60), (List.forall_mem_cons.mpr ⟨(own_b 32), (fun c hc => absurd hc (List.not_mem_nil))⟩)⟩)⟩)⟩
    have B363 := B362.ext E363
    have Sx363 := R363.safe B362.1.lt Sx362
    have St363 := R363.safe B362.2.2.2.2.1.lt St362
    have nx363_y363 : ¬ y363 = x360 ∧ ¬ t363 = x360 ∧ ¬ y363 = t361 ∧ ¬ t363 = t361 := ⟨Ne.symm (N363 _ Sx363).1, Ne.symm (N363 _ Sx363).2, Ne.symm (N363 _ St363).1, Ne.symm (N363 _ St363).2⟩
    refine P363.callV (pc1 := 268) B363.1 (wd hw (k := 83) rfl) (wd hw (k := 84) rfl) (wd hw (k := 86) rfl) (wd hw (k := 85) rfl) (notFace_of_selects (args := #[]) (mvT P363.hz (wd hw (k := 86) rfl))) (by decide) (W.MetN.pay (W := 0) (c_sapp l Z a0 hw x360 t361 k361 16 1 g362 y363 t363 k363 3 (fun i => ([32, 60, 32] : List Int32).getD i 0) h363 B363 (LL363) (by decide) (P363.extZ EZ all0) zc fm US) P363 (wd hw (k := 87) rfl) (wd hw (k := 64) rfl) (by decide) (by decide)) (argsL := [(.ref y363)]) (st0 := []) (lenOf pd_Ljava_lang_String_R_Ljava_lang_StringBuilder rfl) rfl rfl (Nat.le_of_eq rfl) (by rw [hml]; rfl) (by decide) (by decide) (fun _ _ _ q => ⟨q.2.1.up P363.sz (allS (Or.inr hx360) (allS (Or.inr ht361) all0)), CHr.keep q.2.2.1 (sfS Sx363 (sfS St363 sf0)) P363.chv⟩) d14_265 rfl ?_
    intro v364 T364 h364 L364 q364 P364
    obtain ⟨rfl, f364, K364, B364⟩ := q364
    show W.Go p.tables e below _ (T364.setTop (mkF m 268 #[.val (.ref e9), .val (.ref sa), .val (.ref sb), .val (.ref st), .val (.ref y330)] [(.ref x360)]))
    have Sx364 : Safe Z ownEL _ h364 x360 := Safe.keep K364 (sfS Sx363 (sfS St363 sf0)) P363.chv Sx363
    have St364 : Safe Z ownEL _ h364 t361 := Safe.keep K364 (sfS Sx363 (sfS St363 sf0)) P363.chv St363
    have L364_y307 := L363_y307.keep K364 (ninS nx361_y307.1 (ninS nx361_y307.2.2.1 nin0)) (ninS nx361_y307.2.1 (ninS nx361_y307.2.2.2 nin0))
    have L364_y310 := L363_y310.keep K364 (ninS nx361_y310.1 (ninS nx361_y310.2.2.1 nin0)) (ninS nx361_y310.2.1 (ninS nx361_y310.2.2.2 nin0))
    have L364_y313 := L363_y313.keep K364 (ninS nx361_y313.1 (ninS nx361_y313.2.2.1 nin0)) (ninS nx361_y313.2.1 (ninS nx361_y313.2.2.2 nin0))
    have L364_y316 := L363_y316.keep K364 (ninS nx361_y316.1 (ninS nx361_y316.2.2.1 nin0)) (ninS nx361_y316.2.1 (ninS nx361_y316.2.2.2 nin0))
    have L364_y319 := L363_y319.keep K364 (ninS nx361_y319.1 (ninS nx361_y319.2.2.1 nin0)) (ninS nx361_y319.2.1 (ninS nx361_y319.2.2.2 nin0))
    have L364_y328 := L363_y328.keep K364 (ninS nx361_y328.1 (ninS nx361_y328.2.2.1 nin0)) (ninS nx361_y328.2.1 (ninS nx361_y328.2.2.2 nin0))
    have L364_y330 := L363_y330.keep K364 (ninS nx361_y330.1 (ninS nx361_y330.2.2.1 nin0)) (ninS nx361_y330.2.1 (ninS nx361_y330.2.2.2 nin0))
    have L364_y363 := LL363.keep K364 (ninS nx363_y363.1 (ninS nx363_y363.2.2.1 nin0)) (ninS nx363_y363.2.1 (ninS nx363_y363.2.2.2 nin0))
    obtain ⟨g364, hg364, B364⟩ : ∃ g : Nat → Int32, (∀ i, i < 4 → g i = StrChars.lo8 (([ca, 32, 60, 32] : List Int32).getD i 0)) ∧ Sb Z h364 x360 t361 k361 16 4 g := ⟨_, own_ap1 (cs := [ca]) (ds := [32, 60, 32]) rfl rfl hg362, B364⟩
    refine W.g_aloadN (pc1 := 269) P364.q d14_268 rfl rfl rfl ?_
    refine P364.callV (pc1 := 272) B364.1 (wd hw (k := 83) rfl) (wd hw (k := 84) rfl) (wd hw (k := 86) rfl) (wd hw (k := 85) rfl) (notFace_of_selects (args := #[]) (mvT P364.hz (wd hw (k := 86) rfl))) (by decide) (W.MetN.pay (W := 0) (c_sapp l Z a0 hw x360 t361 k361 16 4 g364 sb tb kb 1 (fun i => ([cb] : List Int32).getD i 0) h364 B364 (Lb.ext P364.ext0) (by decide) (P364.extZ EZ all0) zc fm US) P364 (wd hw (k := 87) rfl) (wd hw (k := 64) rfl) (by decide) (by decide)) (argsL := [(.ref sb)]) (st0 := []) (lenOf pd_Ljava_lang_String_R_Ljava_lang_StringBuilder rfl) rfl rfl (Nat.le_of_eq rfl) (by rw [hml]; rfl) (by decide) (by decide) (fun _ _ _ q => ⟨q.2.1.up P364.sz (allS (Or.inr hx360) (allS (Or.inr ht361) all0)), CHr.keep q.2.2.1 (sfS Sx364 (sfS St364 sf0)) P364.chv⟩) d14_269 rfl ?_
    intro v365 T365 h365 L365 q365 P365
    obtain ⟨rfl, f365, K365, B365⟩ := q365
    show W.Go p.tables e below _ (T365.setTop (mkF m 272 #[.val (.ref e9), .val (.ref sa), .val (.ref sb), .val (.ref st), .val (.ref y330)] [(.ref x360)]))
    have Sx365 : Safe Z ownEL _ h365 x360 := Safe.keep K365 (sfS Sx364 (sfS St364 sf0)) P364.chv Sx364
    have St365 : Safe Z ownEL _ h365 t361 := Safe.keep K365 (sfS Sx364 (sfS St364 sf0)) P364.chv St364
    have L365_y307 := L364_y307.keep K365 (ninS nx361_y307.1 (ninS nx361_y307.2.2.1 nin0)) (ninS nx361_y307.2.1 (ninS nx361_y307.2.2.2 nin0))
    have L365_y310 := L364_y310.keep K365 (ninS nx361_y310.1 (ninS nx361_y310.2.2.1 nin0)) (ninS nx361_y310.2.1 (ninS nx361_y310.2.2.2 nin0))
    have L365_y313 := L364_y313.keep K365 (ninS nx361_y313.1 (ninS nx361_y313.2.2.1 nin0)) (ninS nx361_y313.2.1 (ninS nx361_y313.2.2.2 nin0))
    have L365_y316 := L364_y316.keep K365 (ninS nx361_y316.1 (ninS nx361_y316.2.2.1 nin0)) (ninS nx361_y316.2.1 (ninS nx361_y316.2.2.2 nin0))
    have L365_y319 := L364_y319.keep K365 (ninS nx361_y319.1 (ninS nx361_y319.2.2.1 nin0)) (ninS nx361_y319.2.1 (ninS nx361_y319.2.2.2 nin0))
    have L365_y328 := L364_y328.keep K365 (ninS nx361_y328.1 (ninS nx361_y328.2.2.1 nin0)) (ninS nx361_y328.2.1 (ninS nx361_y328.2.2.2 nin0))
    have L365_y330 := L364_y330.keep K365 (ninS nx361_y330.1 (ninS nx361_y330.2.2.1 nin0)) (ninS nx361_y330.2.1 (ninS nx361_y330.2.2.2 nin0))
    have L365_y363 := L364_y363.keep K365 (ninS nx363_y363.1 (ninS nx363_y363.2.2.1 nin0)) (ninS nx363_y363.2.1 (ninS nx363_y363.2.2.2 nin0))
    obtain ⟨g365, hg365, B365⟩ : ∃ g : Nat → Int32, (∀ i, i < 5 → g i = StrChars.lo8 (([ca, 32, 60, 32, cb] : List Int32).getD i 0)) ∧ Sb Z h365 x360 t361 k361 16 5 g := ⟨_, own_ap1 (cs := [ca, 32, 60, 32]) (ds := [cb]) rfl rfl hg364, B365⟩
    refine P365.ldcK (pc1 := 274) (n := 40) (vs := [.int 32, .int 97, .int 110, .int 100, .int 32, .int 110, .int 111, .int 116, .int 32, .int 40]) (z := 10) (wd hw (k := 220) rfl) wS hEL (by decide) ⟨by decide, by decide +kernel⟩ (by decide) (by decide) (by decide) (by decide) (by decide) (by decide) d14_272 rfl ?_
    intro y366 T366 h366 t366 k366 P366 E366 R366 A366 C366 F366 V366 N366 I366 M366
    have L366_y307 := L365_y307.ext E366
    have I366_y307 := Lit.stays I363_y307 M366
    have L366_y310 := L365_y310.ext E366
    have I366_y310 := Lit.stays I363_y310 M366
    have L366_y313 := L365_y313.ext E366
    have I366_y313 := Lit.stays I363_y313 M366
    have L366_y316 := L365_y316.ext E366
    have I366_y316 := Lit.stays I363_y316 M366
    have L366_y319 := L365_y319.ext E366
    have I366_y319 := Lit.stays I363_y319 M366
    have L366_y328 := L365_y328.ext E366
    have I366_y328 := Lit.stays I363_y328 M366
    have L366_y330 := L365_y330.ext E366
    have L366_y363 := L365_y363.ext E366
    have I366_y363 := Lit.stays I363 M366
    have LL366 : Lt Z h366 y366 t366 k366 10 (fun i => ([32, 97, 110, 100, 32, 110, 111, 116, 32, 40] : List Int32).getD i 0) := ⟨A366, F366, C366, W.Arg.of 10 V366 rfl (by decide) (fun i hi => match i, hi with | 0, _ => rfl | 1, _ => rfl | 2, _ => rfl | 3, _ => rfl | 4, _ => rfl | 5, _ => rfl | 6, _ => rfl | 7, _ => rfl | 8, _ => rfl | 9, _ => rfl | k + 10, hk => absurd hk (Nat.not_lt.mpr (Nat.le_add_left _ _))), own_byD (cs := [32, 97, 110, 100, 32, 110, 111, 116, 32, 40]) (List.forall_mem_cons.mpr ⟨(own_b 32), (List.forall_mem_cons.mpr ⟨(own_b 97), (List.forall_mem_cons.mpr ⟨(own_b 110), (List.forall_mem_cons.mpr ⟨(own_b 100), (List.forall_mem_cons.mpr ⟨(own_b 32), (List.forall_mem_cons.mpr ⟨(own_b 110), (List.forall_mem_cons.mpr ⟨(own_b 111), (List.forall_mem_cons.mpr ⟨(own_b 116), (List.forall_mem_cons.mpr ⟨(own_b 32), (List.forall_mem_cons.mpr ⟨(own_b 40), (fun c hc => absurd hc (List.not_mem_nil))⟩)⟩)⟩)⟩)⟩)⟩)⟩)⟩)⟩)⟩)⟩
    have B366 := B365.ext E366
    have Sx366 := R366.safe B365.1.lt Sx365
    have St366 := R366.safe B365.2.2.2.2.1.lt St365
    have nx366_y366 : ¬ y366 = x360 ∧ ¬ t366 = x360 ∧ ¬ y366 = t361 ∧ ¬ t366 = t361 := ⟨Ne.symm (N366 _ Sx366).1, Ne.symm (N366 _ Sx366).2, Ne.symm (N366 _ St366).1, Ne.symm (N366 _ St366).2⟩
    refine P366.callV (pc1 := 277) B366.1 (wd hw (k := 83) rfl) (wd hw (k := 84) rfl) (wd hw (k := 86) rfl) (wd hw (k := 85) rfl) (notFace_of_selects (args := #[]) (mvT P366.hz (wd hw (k := 86) rfl))) (by decide) (W.MetN.pay (W := 0) (c_sapp l Z a0 hw x360 t361 k361 16 5 g365 y366 t366 k366 10 (fun i => ([32, 97, 110, 100, 32, 110, 111, 116, 32, 40] : List Int32).getD i 0) h366 B366 (LL366) (by decide) (P366.extZ EZ all0) zc fm US) P366 (wd hw (k := 87) rfl) (wd hw (k := 64) rfl) (by decide) (by decide)) (argsL := [(.ref y366)]) (st0 := []) (lenOf pd_Ljava_lang_String_R_Ljava_lang_StringBuilder rfl) rfl rfl (Nat.le_of_eq rfl) (by rw [hml]; rfl) (by decide) (by decide) (fun _ _ _ q => ⟨q.2.1.up P366.sz (allS (Or.inr hx360) (allS (Or.inr ht361) all0)), CHr.keep q.2.2.1 (sfS Sx366 (sfS St366 sf0)) P366.chv⟩) d14_274 rfl ?_
    intro v367 T367 h367 L367 q367 P367
    obtain ⟨rfl, f367, K367, B367⟩ := q367
    show W.Go p.tables e below _ (T367.setTop (mkF m 277 #[.val (.ref e9), .val (.ref sa), .val (.ref sb), .val (.ref st), .val (.ref y330)] [(.ref x360)]))
    have Sx367 : Safe Z ownEL _ h367 x360 := Safe.keep K367 (sfS Sx366 (sfS St366 sf0)) P366.chv Sx366
    have St367 : Safe Z ownEL _ h367 t361 := Safe.keep K367 (sfS Sx366 (sfS St366 sf0)) P366.chv St366
    have L367_y307 := L366_y307.keep K367 (ninS nx361_y307.1 (ninS nx361_y307.2.2.1 nin0)) (ninS nx361_y307.2.1 (ninS nx361_y307.2.2.2 nin0))
    have L367_y310 := L366_y310.keep K367 (ninS nx361_y310.1 (ninS nx361_y310.2.2.1 nin0)) (ninS nx361_y310.2.1 (ninS nx361_y310.2.2.2 nin0))
    have L367_y313 := L366_y313.keep K367 (ninS nx361_y313.1 (ninS nx361_y313.2.2.1 nin0)) (ninS nx361_y313.2.1 (ninS nx361_y313.2.2.2 nin0))
    have L367_y316 := L366_y316.keep K367 (ninS nx361_y316.1 (ninS nx361_y316.2.2.1 nin0)) (ninS nx361_y316.2.1 (ninS nx361_y316.2.2.2 nin0))
    have L367_y319 := L366_y319.keep K367 (ninS nx361_y319.1 (ninS nx361_y319.2.2.1 nin0)) (ninS nx361_y319.2.1 (ninS nx361_y319.2.2.2 nin0))
    have L367_y328 := L366_y328.keep K367 (ninS nx361_y328.1 (ninS nx361_y328.2.2.1 nin0)) (ninS nx361_y328.2.1 (ninS nx361_y328.2.2.2 nin0))
    have L367_y330 := L366_y330.keep K367 (ninS nx361_y330.1 (ninS nx361_y330.2.2.1 nin0)) (ninS nx361_y330.2.1 (ninS nx361_y330.2.2.2 nin0))
    have L367_y363 := L366_y363.keep K367 (ninS nx363_y363.1 (ninS nx363_y363.2.2.1 nin0)) (ninS nx363_y363.2.1 (ninS nx363_y363.2.2.2 nin0))
    have L367_y366 := LL366.keep K367 (ninS nx366_y366.1 (ninS nx366_y366.2.2.1 nin0)) (ninS nx366_y366.2.1 (ninS nx366_y366.2.2.2 nin0))
    obtain ⟨g367, hg367, B367⟩ : ∃ g : Nat → Int32, (∀ i, i < 15 → g i = StrChars.lo8 (([ca, 32, 60, 32, cb, 32, 97, 110, 100, 32, 110, 111, 116, 32, 40] : List Int32).getD i 0)) ∧ Sb Z h367 x360 t361 k361 16 15 g := ⟨_, own_ap1 (cs := [ca, 32, 60, 32, cb]) (ds := [32, 97, 110, 100, 32, 110, 111, 116, 32, 40]) rfl rfl hg365, B367⟩
    refine W.g_aload (pc1 := 279) P367.q d14_277 rfl rfl rfl ?_
    refine P367.callV (pc1 := 282) B367.1 (wd hw (k := 83) rfl) (wd hw (k := 84) rfl) (wd hw (k := 86) rfl) (wd hw (k := 85) rfl) (notFace_of_selects (args := #[]) (mvT P367.hz (wd hw (k := 86) rfl))) (by decide) (W.MetN.pay (W := 0) (c_sappg l Z a0 hw x360 t361 k361 16 15 g367 y330 a330 k330 52 (fun i => ([97, 98, 115, 40, ca, 32, 45, 32, cb, 41, 32, 60, 61, 32, ct, 32, 42, 32, 97, 98, 115, 40, ca, 41, 32, 111, 114, 32, 97, 98, 115, 40, ca, 32, 45, 32, cb, 41, 32, 60, 61, 32, ct, 32, 42, 32, 97, 98, 115, 40, cb, 41] : List Int32).getD i 0) h367 B367 (L367_y330) 67 (by decide) (by decide) (by decide) nx361_y330.1 nx361_y330.2.1 hzx360 (P367.extZ EZ all0) zc fm US) P367 (wd hw (k := 87) rfl) (wd hw (k := 64) rfl) (by decide) (by decide)) (argsL := [(.ref y330)]) (st0 := []) (lenOf pd_Ljava_lang_String_R_Ljava_lang_StringBuilder rfl) rfl rfl (Nat.le_of_eq rfl) (by rw [hml]; rfl) (by decide) (by decide) (fun _ _ _ q => ⟨q.2.1.up P367.sz (allS (Or.inr hx360) all0), CHr.keep q.2.2.1 (sfS Sx367 sf0) P367.chv⟩) d14_279 rfl ?_
    intro v368 T368 h368 L368 q368 P368
    obtain ⟨rfl, f368, K368, t368, k368, n368, B368⟩ := q368
    show W.Go p.tables e below _ (T368.setTop (mkF m 282 #[.val (.ref e9), .val (.ref sa), .val (.ref sb), .val (.ref st), .val (.ref y330)] [(.ref x360)]))
    have Sx368 : Safe Z ownEL _ h368 x360 := Safe.keep K368 (sfS Sx367 sf0) P367.chv Sx367
    have St368 : Safe Z ownEL _ h368 t368 := Safe.keep K368 (sfS Sx367 sf0) P367.chv (Safe.new n368)
    have ht368 : h0.size ≤ t368 := Nat.le_trans P367.sz n368
    have nx368_y307 : ¬ y307 = x360 ∧ ¬ t307 = x360 ∧ ¬ y307 = t368 ∧ ¬ t307 = t368 := ⟨nx361_y307.1, nx361_y307.2.1, Nat.ne_of_lt (Nat.lt_of_lt_of_le L367_y307.1.lt n368), Nat.ne_of_lt (Nat.lt_of_lt_of_le L367_y307.2.2.2.1.lt n368)⟩
    have L368_y307 := L367_y307.keep K368 (ninS nx361_y307.1 nin0) (ninS nx361_y307.2.1 nin0)
    have nx368_y310 : ¬ y310 = x360 ∧ ¬ t310 = x360 ∧ ¬ y310 = t368 ∧ ¬ t310 = t368 := ⟨nx361_y310.1, nx361_y310.2.1, Nat.ne_of_lt (Nat.lt_of_lt_of_le L367_y310.1.lt n368), Nat.ne_of_lt (Nat.lt_of_lt_of_le L367_y310.2.2.2.1.lt n368)⟩
    have L368_y310 := L367_y310.keep K368 (ninS nx361_y310.1 nin0) (ninS nx361_y310.2.1 nin0)
    have nx368_y313 : ¬ y313 = x360 ∧ ¬ t313 = x360 ∧ ¬ y313 = t368 ∧ ¬ t313 = t368 := ⟨nx361_y313.1, nx361_y313.2.1, Nat.ne_of_lt (Nat.lt_of_lt_of_le L367_y313.1.lt n368), Nat.ne_of_lt (Nat.lt_of_lt_of_le L367_y313.2.2.2.1.lt n368)⟩
    have L368_y313 := L367_y313.keep K368 (ninS nx361_y313.1 nin0) (ninS nx361_y313.2.1 nin0)
    have nx368_y316 : ¬ y316 = x360 ∧ ¬ t316 = x360 ∧ ¬ y316 = t368 ∧ ¬ t316 = t368 := ⟨nx361_y316.1, nx361_y316.2.1, Nat.ne_of_lt (Nat.lt_of_lt_of_le L367_y316.1.lt n368), Nat.ne_of_lt (Nat.lt_of_lt_of_le L367_y316.2.2.2.1.lt n368)⟩
    have L368_y316 := L367_y316.keep K368 (ninS nx361_y316.1 nin0) (ninS nx361_y316.2.1 nin0)
    have nx368_y319 : ¬ y319 = x360 ∧ ¬ t319 = x360 ∧ ¬ y319 = t368 ∧ ¬ t319 = t368 := ⟨nx361_y319.1, nx361_y319.2.1, Nat.ne_of_lt (Nat.lt_of_lt_of_le L367_y319.1.lt n368), Nat.ne_of_lt (Nat.lt_of_lt_of_le L367_y319.2.2.2.1.lt n368)⟩
    have L368_y319 := L367_y319.keep K368 (ninS nx361_y319.1 nin0) (ninS nx361_y319.2.1 nin0)
    have nx368_y328 : ¬ y328 = x360 ∧ ¬ t328 = x360 ∧ ¬ y328 = t368 ∧ ¬ t328 = t368 := ⟨nx361_y328.1, nx361_y328.2.1, Nat.ne_of_lt (Nat.lt_of_lt_of_le L367_y328.1.lt n368), Nat.ne_of_lt (Nat.lt_of_lt_of_le L367_y328.2.2.2.1.lt n368)⟩
    have L368_y328 := L367_y328.keep K368 (ninS nx361_y328.1 nin0) (ninS nx361_y328.2.1 nin0)
    have nx368_y330 : ¬ y330 = x360 ∧ ¬ a330 = x360 ∧ ¬ y330 = t368 ∧ ¬ a330 = t368 := ⟨nx361_y330.1, nx361_y330.2.1, Nat.ne_of_lt (Nat.lt_of_lt_of_le L367_y330.1.lt n368), Nat.ne_of_lt (Nat.lt_of_lt_of_le L367_y330.2.2.2.1.lt n368)⟩
    have L368_y330 := L367_y330.keep K368 (ninS nx361_y330.1 nin0) (ninS nx361_y330.2.1 nin0)
    have nx368_y363 : ¬ y363 = x360 ∧ ¬ t363 = x360 ∧ ¬ y363 = t368 ∧ ¬ t363 = t368 := ⟨nx363_y363.1, nx363_y363.2.1, Nat.ne_of_lt (Nat.lt_of_lt_of_le L367_y363.1.lt n368), Nat.ne_of_lt (Nat.lt_of_lt_of_le L367_y363.2.2.2.1.lt n368)⟩
    have L368_y363 := L367_y363.keep K368 (ninS nx363_y363.1 nin0) (ninS nx363_y363.2.1 nin0)
    have nx368_y366 : ¬ y366 = x360 ∧ ¬ t366 = x360 ∧ ¬ y366 = t368 ∧ ¬ t366 = t368 := ⟨nx366_y366.1, nx366_y366.2.1, Nat.ne_of_lt (Nat.lt_of_lt_of_le L367_y366.1.lt n368), Nat.ne_of_lt (Nat.lt_of_lt_of_le L367_y366.2.2.2.1.lt n368)⟩
    have L368_y366 := L367_y366.keep K368 (ninS nx366_y366.1 nin0) (ninS nx366_y366.2.1 nin0)
    obtain ⟨g368, hg368, B368⟩ : ∃ g : Nat → Int32, (∀ i, i < 67 → g i = StrChars.lo8 (([ca, 32, 60, 32, cb, 32, 97, 110, 100, 32, 110, 111, 116, 32, 40, 97, 98, 115, 40, ca, 32, 45, 32, cb, 41, 32, 60, 61, 32, ct, 32, 42, 32, 97, 98, 115, 40, ca, 41, 32, 111, 114, 32, 97, 98, 115, 40, ca, 32, 45, 32, cb, 41, 32, 60, 61, 32, ct, 32, 42, 32, 97, 98, 115, 40, cb, 41] : List Int32).getD i 0)) ∧ Sb Z h368 x360 t368 k368 67 67 g := ⟨_, own_ap1 (cs := [ca, 32, 60, 32, cb, 32, 97, 110, 100, 32, 110, 111, 116, 32, 40]) (ds := [97, 98, 115, 40, ca, 32, 45, 32, cb, 41, 32, 60, 61, 32, ct, 32, 42, 32, 97, 98, 115, 40, ca, 41, 32, 111, 114, 32, 97, 98, 115, 40, ca, 32, 45, 32, cb, 41, 32, 60, 61, 32, ct, 32, 42, 32, 97, 98, 115, 40, cb, 41]) rfl rfl (own_ap2 (cnt := 15) (by decide) hg367), B368⟩
    refine P368.ldcA (pc1 := 284) (text := ")") (wd hw (k := 157) rfl) I366_y328 d14_282 rfl ?_
    show W.Go p.tables e below _ (T368.setTop (mkF m 284 #[.val (.ref e9), .val (.ref sa), .val (.ref sb), .val (.ref st), .val (.ref y330)] [(.ref y328), (.ref x360)]))
    refine P368.callV (pc1 := 287) B368.1 (wd hw (k := 83) rfl) (wd hw (k := 84) rfl) (wd hw (k := 86) rfl) (wd hw (k := 85) rfl) (notFace_of_selects (args := #[]) (mvT P368.hz (wd hw (k := 86) rfl))) (by decide) (W.MetN.pay (W := 0) (c_sappg l Z a0 hw x360 t368 k368 67 67 g368 y328 t328 k328 1 (fun i => ([41] : List Int32).getD i 0) h368 B368 (L368_y328) 136 (by decide) (by decide) (by decide) nx368_y328.1 nx368_y328.2.1 hzx360 (P368.extZ EZ all0) zc fm US) P368 (wd hw (k := 87) rfl) (wd hw (k := 64) rfl) (by decide) (by decide)) (argsL := [(.ref y328)]) (st0 := []) (lenOf pd_Ljava_lang_String_R_Ljava_lang_StringBuilder rfl) rfl rfl (Nat.le_of_eq rfl) (by rw [hml]; rfl) (by decide) (by decide) (fun _ _ _ q => ⟨q.2.1.up P368.sz (allS (Or.inr hx360) all0), CHr.keep q.2.2.1 (sfS Sx368 sf0) P368.chv⟩) d14_284 rfl ?_
    intro v369 T369 h369 L369 q369 P369
    obtain ⟨rfl, f369, K369, t369, k369, n369, B369⟩ := q369
    show W.Go p.tables e below _ (T369.setTop (mkF m 287 #[.val (.ref e9), .val (.ref sa), .val (.ref sb), .val (.ref st), .val (.ref y330)] [(.ref x360)]))
    have Sx369 : Safe Z ownEL _ h369 x360 := Safe.keep K369 (sfS Sx368 sf0) P368.chv Sx368
    have St369 : Safe Z ownEL _ h369 t369 := Safe.keep K369 (sfS Sx368 sf0) P368.chv (Safe.new n369)
    have ht369 : h0.size ≤ t369 := Nat.le_trans P368.sz n369
    have nx369_y307 : ¬ y307 = x360 ∧ ¬ t307 = x360 ∧ ¬ y307 = t369 ∧ ¬ t307 = t369 := ⟨nx368_y307.1, nx368_y307.2.1, Nat.ne_of_lt (Nat.lt_of_lt_of_le L368_y307.1.lt n369), Nat.ne_of_lt (Nat.lt_of_lt_of_le L368_y307.2.2.2.1.lt n369)⟩
    have L369_y307 := L368_y307.keep K369 (ninS nx368_y307.1 nin0) (ninS nx368_y307.2.1 nin0)
    have nx369_y310 : ¬ y310 = x360 ∧ ¬ t310 = x360 ∧ ¬ y310 = t369 ∧ ¬ t310 = t369 := ⟨nx368_y310.1, nx368_y310.2.1, Nat.ne_of_lt (Nat.lt_of_lt_of_le L368_y310.1.lt n369), Nat.ne_of_lt (Nat.lt_of_lt_of_le L368_y310.2.2.2.1.lt n369)⟩
    have L369_y310 := L368_y310.keep K369 (ninS nx368_y310.1 nin0) (ninS nx368_y310.2.1 nin0)
    have nx369_y313 : ¬ y313 = x360 ∧ ¬ t313 = x360 ∧ ¬ y313 = t369 ∧ ¬ t313 = t369 := ⟨nx368_y313.1, nx368_y313.2.1, Nat.ne_of_lt (Nat.lt_of_lt_of_le L368_y313.1.lt n369), Nat.ne_of_lt (Nat.lt_of_lt_of_le L368_y313.2.2.2.1.lt n369)⟩
    have L369_y313 := L368_y313.keep K369 (ninS nx368_y313.1 nin0) (ninS nx368_y313.2.1 nin0)
    have nx369_y316 : ¬ y316 = x360 ∧ ¬ t316 = x360 ∧ ¬ y316 = t369 ∧ ¬ t316 = t369 := ⟨nx368_y316.1, nx368_y316.2.1, Nat.ne_of_lt (Nat.lt_of_lt_of_le L368_y316.1.lt n369), Nat.ne_of_lt (Nat.lt_of_lt_of_le L368_y316.2.2.2.1.lt n369)⟩
    have L369_y316 := L368_y316.keep K369 (ninS nx368_y316.1 nin0) (ninS nx368_y316.2.1 nin0)
    have nx369_y319 : ¬ y319 = x360 ∧ ¬ t319 = x360 ∧ ¬ y319 = t369 ∧ ¬ t319 = t369 := ⟨nx368_y319.1, nx368_y319.2.1, Nat.ne_of_lt (Nat.lt_of_lt_of_le L368_y319.1.lt n369), Nat.ne_of_lt (Nat.lt_of_lt_of_le L368_y319.2.2.2.1.lt n369)⟩
    have L369_y319 := L368_y319.keep K369 (ninS nx368_y319.1 nin0) (ninS nx368_y319.2.1 nin0)
    have nx369_y328 : ¬ y328 = x360 ∧ ¬ t328 = x360 ∧ ¬ y328 = t369 ∧ ¬ t328 = t369 := ⟨nx368_y328.1, nx368_y328.2.1, Nat.ne_of_lt (Nat.lt_of_lt_of_le L368_y328.1.lt n369), Nat.ne_of_lt (Nat.lt_of_lt_of_le L368_y328.2.2.2.1.lt n369)⟩
    have L369_y328 := L368_y328.keep K369 (ninS nx368_y328.1 nin0) (ninS nx368_y328.2.1 nin0)
    have nx369_y330 : ¬ y330 = x360 ∧ ¬ a330 = x360 ∧ ¬ y330 = t369 ∧ ¬ a330 = t369 := ⟨nx368_y330.1, nx368_y330.2.1, Nat.ne_of_lt (Nat.lt_of_lt_of_le L368_y330.1.lt n369), Nat.ne_of_lt (Nat.lt_of_lt_of_le L368_y330.2.2.2.1.lt n369)⟩
    have L369_y330 := L368_y330.keep K369 (ninS nx368_y330.1 nin0) (ninS nx368_y330.2.1 nin0)
    have nx369_y363 : ¬ y363 = x360 ∧ ¬ t363 = x360 ∧ ¬ y363 = t369 ∧ ¬ t363 = t369 := ⟨nx368_y363.1, nx368_y363.2.1, Nat.ne_of_lt (Nat.lt_of_lt_of_le L368_y363.1.lt n369), Nat.ne_of_lt (Nat.lt_of_lt_of_le L368_y363.2.2.2.1.lt n369)⟩
    have L369_y363 := L368_y363.keep K369 (ninS nx368_y363.1 nin0) (ninS nx368_y363.2.1 nin0)
    have nx369_y366 : ¬ y366 = x360 ∧ ¬ t366 = x360 ∧ ¬ y366 = t369 ∧ ¬ t366 = t369 := ⟨nx368_y366.1, nx368_y366.2.1, Nat.ne_of_lt (Nat.lt_of_lt_of_le L368_y366.1.lt n369), Nat.ne_of_lt (Nat.lt_of_lt_of_le L368_y366.2.2.2.1.lt n369)⟩
    have L369_y366 := L368_y366.keep K369 (ninS nx368_y366.1 nin0) (ninS nx368_y366.2.1 nin0)
    obtain ⟨g369, hg369, B369⟩ : ∃ g : Nat → Int32, (∀ i, i < 68 → g i = StrChars.lo8 (([ca, 32, 60, 32, cb, 32, 97, 110, 100, 32, 110, 111, 116, 32, 40, 97, 98, 115, 40, ca, 32, 45, 32, cb, 41, 32, 60, 61, 32, ct, 32, 42, 32, 97, 98, 115, 40, ca, 41, 32, 111, 114, 32, 97, 98, 115, 40, ca, 32, 45, 32, cb, 41, 32, 60, 61, 32, ct, 32, 42, 32, 97, 98, 115, 40, cb, 41, 41] : List Int32).getD i 0)) ∧ Sb Z h369 x360 t369 k369 136 68 g := ⟨_, own_ap1 (cs := [ca, 32, 60, 32, cb, 32, 97, 110, 100, 32, 110, 111, 116, 32, 40, 97, 98, 115, 40, ca, 32, 45, 32, cb, 41, 32, 60, 61, 32, ct, 32, 42, 32, 97, 98, 115, 40, ca, 41, 32, 111, 114, 32, 97, 98, 115, 40, ca, 32, 45, 32, cb, 41, 32, 60, 61, 32, ct, 32, 42, 32, 97, 98, 115, 40, cb, 41]) (ds := [41]) rfl rfl (own_ap2 (cnt := 67) (by decide) hg368), B369⟩
    refine P369.callV (pc1 := 290) B369.1 (wd hw (k := 158) rfl) (wd hw (k := 159) rfl) (wd hw (k := 161) rfl) (wd hw (k := 160) rfl) (notFace_of_selects (args := #[]) (mvT P369.hz (wd hw (k := 161) rfl))) (by decide) (W.MetN.pay (W := 0) (c_tos l Z a0 hw x360 t369 k369 136 68 g369 (by decide) (by decide) h369 B369 (P369.extZ EZ all0) zc fm US) P369 (wd hw (k := 162) rfl) (wd hw (k := 64) rfl) (by decide) (by decide)) (argsL := []) (st0 := []) (lenOf pd__R_Ljava_lang_String rfl) rfl rfl (Nat.le_of_eq rfl) (by rw [hml]; rfl) (by decide) (by decide) (fun _ _ _ q => by obtain ⟨_, _, _, _, q2, q3, _⟩ := q; exact ⟨q2.up P369.sz all0, CHr.ext q3 P369.chv⟩) d14_287 rfl ?_
    intro v370 T370 h370 L370 q370 P370
    obtain ⟨y370, a370, k370, rfl, f370, E370, A370, F370, C370, G370⟩ := q370
    show W.Go p.tables e below _ (T370.setTop (mkF m 290 #[.val (.ref e9), .val (.ref sa), .val (.ref sb), .val (.ref st), .val (.ref y330)] [(.ref y370)]))
    have L370_y307 := L369_y307.ext E370
    have L370_y310 := L369_y310.ext E370
    have L370_y313 := L369_y313.ext E370
    have L370_y316 := L369_y316.ext E370
    have L370_y319 := L369_y319.ext E370
    have L370_y328 := L369_y328.ext E370
    have L370_y330 := L369_y330.ext E370
    have L370_y363 := L369_y363.ext E370
    have L370_y366 := L369_y366.ext E370
    refine W.g_goto (pc1 := 326) P370.q d14_290 (by decide) rfl ?_
    have SR : W.Str Z h370 y370 (own_E4 ca cb ct) := own_toStr A370 F370 C370 G370 rfl (by decide) (fun i hi => hg369 i hi) (own_Eb4 ca cb ct ba bb bt)
    exact P370.retAW hEL hlk hret rfl rfl rfl d14_326 (by decide) (by decide) ⟨y370, rfl, P370.fr, P370.ext0, SR⟩
  · show W.Go p.tables e below _ (T331.setTop (mkF m 93 #[.val (.ref e9), .val (.ref sa), .val (.ref sb), .val (.ref st), .val (.ref y330)] [(.int (5 : Int32))]))
    refine W.g_tsw (pc1 := 293) P331.q d14_93 (by decide) rfl (by decide) rfl ?_
    refine P331.newO (pc1 := 296) (wd hw (k := 62) rfl) (wd hw (k := 63) rfl) (wd hw (k := 64) rfl) (by decide) (by decide) d14_293 rfl ?_
    intro T371 h371 x371 g371 P371 E371 A371 D371 U371
    refine W.g_dup (pc1 := 297) P371.q d14_296 rfl rfl ?_
    have Fvalue371 : Fld Z h371 x371 "java/lang/AbstractStringBuilder" "value" "[B" .null := D371 (Or.inl (wd hw (k := 77) rfl)) (ty := .array .byte) (by decide)
    have Fcoder371 : Fld Z h371 x371 "java/lang/AbstractStringBuilder" "coder" "B" (.int 0) := D371 (Or.inl (wd hw (k := 79) rfl)) (ty := .byte) (by decide)
    have Fcount371 : Fld Z h371 x371 "java/lang/AbstractStringBuilder" "count" "I" (.int 0) := D371 (Or.inl (wd hw (k := 104) rfl)) (ty := .int) (by decide)
    have hx371 : h0.size ≤ x371 := by rw [g371]; exact P331.sz
    have hzx371 : Z.heap.size ≤ x371 := Nat.le_trans EZ.1 hx371
    have Sx371 : Safe Z ownEL _ h371 x371 := Safe.exa P371.al A371 (by decide) (by decide)
    refine P371.callN (pc1 := 300) rfl (wd hw (k := 65) rfl) (wd hw (k := 66) rfl) (wd hw (k := 67) rfl) (by decide) (W.MetN.pay (W := 1) (c_sini l Z a0 hw x371 h371 A371 _ _ Fvalue371 Fcoder371 Fcount371 (P371.extZ EZ all0) zc fm US) P371 (wd hw (k := 67) rfl) (wd hw (k := 64) rfl) (by decide) (by decide)) (argsL := []) (st0 := [(.ref x371)]) (lenOf pd__R_V rfl) rfl rfl (Nat.le_of_eq rfl) (by rw [hml]; rfl) (by decide) (by decide) (fun _ _ _ q => ⟨q.2.1.up P371.sz (allS (Or.inr hx371) all0), CHr.keep q.2.2.1 (sfS Sx371 sf0) P371.chv⟩) d14_297 rfl ?_
    intro v372 T372 h372 L372 q372 P372
    obtain ⟨rfl, f372, K372, t372, k372, n372, B372⟩ := q372
    show W.Go p.tables e below _ (T372.setTop (mkF m 300 #[.val (.ref e9), .val (.ref sa), .val (.ref sb), .val (.ref st), .val (.ref y330)] [(.ref x371)]))
    have EB372 := W.Ext.keepNew E371 K372 (allS (Nat.le_of_eq g371.symm) all0)
    have Sx372 : Safe Z ownEL _ h372 x371 := Safe.keep K372 (sfS Sx371 sf0) P371.chv Sx371
    have St372 : Safe Z ownEL _ h372 t372 := Safe.keep K372 (sfS Sx371 sf0) P371.chv (Safe.new n372)
    have ht372 : h0.size ≤ t372 := Nat.le_trans P371.sz n372
    obtain ⟨g372, hg372, B372⟩ : ∃ g : Nat → Int32, (∀ i, i < 0 → g i = StrChars.lo8 (([] : List Int32).getD i 0)) ∧ Sb Z h372 x371 t372 k372 16 0 g := ⟨_, fun i hi => absurd hi (Nat.not_lt_zero i), B372⟩
    have L372_y307 := L330_y307.ext EB372
    have nx372_y307 : ¬ y307 = x371 ∧ ¬ t307 = x371 ∧ ¬ y307 = t372 ∧ ¬ t307 = t372 := by
      have q1 := L330_y307.1.lt
      have q2 := L330_y307.2.2.2.1.lt
      have q3 := E371.1
      exact ⟨Nat.ne_of_lt (by rw [g371]; exact q1), Nat.ne_of_lt (by rw [g371]; exact q2), Nat.ne_of_lt (Nat.lt_of_lt_of_le q1 (Nat.le_trans q3 n372)), Nat.ne_of_lt (Nat.lt_of_lt_of_le q2 (Nat.le_trans q3 n372))⟩
    have L372_y310 := L330_y310.ext EB372
    have nx372_y310 : ¬ y310 = x371 ∧ ¬ t310 = x371 ∧ ¬ y310 = t372 ∧ ¬ t310 = t372 := by
      have q1 := L330_y310.1.lt
      have q2 := L330_y310.2.2.2.1.lt
      have q3 := E371.1
      exact ⟨Nat.ne_of_lt (by rw [g371]; exact q1), Nat.ne_of_lt (by rw [g371]; exact q2), Nat.ne_of_lt (Nat.lt_of_lt_of_le q1 (Nat.le_trans q3 n372)), Nat.ne_of_lt (Nat.lt_of_lt_of_le q2 (Nat.le_trans q3 n372))⟩
    have L372_y313 := L330_y313.ext EB372
    have nx372_y313 : ¬ y313 = x371 ∧ ¬ t313 = x371 ∧ ¬ y313 = t372 ∧ ¬ t313 = t372 := by
      have q1 := L330_y313.1.lt
      have q2 := L330_y313.2.2.2.1.lt
      have q3 := E371.1
      exact ⟨Nat.ne_of_lt (by rw [g371]; exact q1), Nat.ne_of_lt (by rw [g371]; exact q2), Nat.ne_of_lt (Nat.lt_of_lt_of_le q1 (Nat.le_trans q3 n372)), Nat.ne_of_lt (Nat.lt_of_lt_of_le q2 (Nat.le_trans q3 n372))⟩
    have L372_y316 := L330_y316.ext EB372
    have nx372_y316 : ¬ y316 = x371 ∧ ¬ t316 = x371 ∧ ¬ y316 = t372 ∧ ¬ t316 = t372 := by
      have q1 := L330_y316.1.lt
      have q2 := L330_y316.2.2.2.1.lt
      have q3 := E371.1
      exact ⟨Nat.ne_of_lt (by rw [g371]; exact q1), Nat.ne_of_lt (by rw [g371]; exact q2), Nat.ne_of_lt (Nat.lt_of_lt_of_le q1 (Nat.le_trans q3 n372)), Nat.ne_of_lt (Nat.lt_of_lt_of_le q2 (Nat.le_trans q3 n372))⟩
    have L372_y319 := L330_y319.ext EB372
    have nx372_y319 : ¬ y319 = x371 ∧ ¬ t319 = x371 ∧ ¬ y319 = t372 ∧ ¬ t319 = t372 := by
      have q1 := L330_y319.1.lt
      have q2 := L330_y319.2.2.2.1.lt
      have q3 := E371.1
      exact ⟨Nat.ne_of_lt (by rw [g371]; exact q1), Nat.ne_of_lt (by rw [g371]; exact q2), Nat.ne_of_lt (Nat.lt_of_lt_of_le q1 (Nat.le_trans q3 n372)), Nat.ne_of_lt (Nat.lt_of_lt_of_le q2 (Nat.le_trans q3 n372))⟩
    have L372_y328 := L330_y328.ext EB372
    have nx372_y328 : ¬ y328 = x371 ∧ ¬ t328 = x371 ∧ ¬ y328 = t372 ∧ ¬ t328 = t372 := by
      have q1 := L330_y328.1.lt
      have q2 := L330_y328.2.2.2.1.lt
      have q3 := E371.1
      exact ⟨Nat.ne_of_lt (by rw [g371]; exact q1), Nat.ne_of_lt (by rw [g371]; exact q2), Nat.ne_of_lt (Nat.lt_of_lt_of_le q1 (Nat.le_trans q3 n372)), Nat.ne_of_lt (Nat.lt_of_lt_of_le q2 (Nat.le_trans q3 n372))⟩
    have L372_y330 := L4.ext EB372
    have nx372_y330 : ¬ y330 = x371 ∧ ¬ a330 = x371 ∧ ¬ y330 = t372 ∧ ¬ a330 = t372 := by
      have q1 := L4.1.lt
      have q2 := L4.2.2.2.1.lt
      have q3 := E371.1
      exact ⟨Nat.ne_of_lt (by rw [g371]; exact q1), Nat.ne_of_lt (by rw [g371]; exact q2), Nat.ne_of_lt (Nat.lt_of_lt_of_le q1 (Nat.le_trans q3 n372)), Nat.ne_of_lt (Nat.lt_of_lt_of_le q2 (Nat.le_trans q3 n372))⟩
    refine W.g_aloadN (pc1 := 301) P372.q d14_300 rfl rfl rfl ?_
    refine P372.callV (pc1 := 304) B372.1 (wd hw (k := 83) rfl) (wd hw (k := 84) rfl) (wd hw (k := 86) rfl) (wd hw (k := 85) rfl) (notFace_of_selects (args := #[]) (mvT P372.hz (wd hw (k := 86) rfl))) (by decide) (W.MetN.pay (W := 0) (c_sapp l Z a0 hw x371 t372 k372 16 0 g372 sa ta ka 1 (fun i => ([ca] : List Int32).getD i 0) h372 B372 (La.ext P372.ext0) (by decide) (P372.extZ EZ all0) zc fm US) P372 (wd hw (k := 87) rfl) (wd hw (k := 64) rfl) (by decide) (by decide)) (argsL := [(.ref sa)]) (st0 := []) (lenOf pd_Ljava_lang_String_R_Ljava_lang_StringBuilder rfl) rfl rfl (Nat.le_of_eq rfl) (by rw [hml]; rfl) (by decide) (by decide) (fun _ _ _ q => ⟨q.2.1.up P372.sz (allS (Or.inr hx371) (allS (Or.inr ht372) all0)), CHr.keep q.2.2.1 (sfS Sx372 (sfS St372 sf0)) P372.chv⟩) d14_301 rfl ?_
    intro v373 T373 h373 L373 q373 P373
    obtain ⟨rfl, f373, K373, B373⟩ := q373
    show W.Go p.tables e below _ (T373.setTop (mkF m 304 #[.val (.ref e9), .val (.ref sa), .val (.ref sb), .val (.ref st), .val (.ref y330)] [(.ref x371)]))
    have Sx373 : Safe Z ownEL _ h373 x371 := Safe.keep K373 (sfS Sx372 (sfS St372 sf0)) P372.chv Sx372
    have St373 : Safe Z ownEL _ h373 t372 := Safe.keep K373 (sfS Sx372 (sfS St372 sf0)) P372.chv St372
    have L373_y307 := L372_y307.keep K373 (ninS nx372_y307.1 (ninS nx372_y307.2.2.1 nin0)) (ninS nx372_y307.2.1 (ninS nx372_y307.2.2.2 nin0))
    have L373_y310 := L372_y310.keep K373 (ninS nx372_y310.1 (ninS nx372_y310.2.2.1 nin0)) (ninS nx372_y310.2.1 (ninS nx372_y310.2.2.2 nin0))
    have L373_y313 := L372_y313.keep K373 (ninS nx372_y313.1 (ninS nx372_y313.2.2.1 nin0)) (ninS nx372_y313.2.1 (ninS nx372_y313.2.2.2 nin0))
    have L373_y316 := L372_y316.keep K373 (ninS nx372_y316.1 (ninS nx372_y316.2.2.1 nin0)) (ninS nx372_y316.2.1 (ninS nx372_y316.2.2.2 nin0))
    have L373_y319 := L372_y319.keep K373 (ninS nx372_y319.1 (ninS nx372_y319.2.2.1 nin0)) (ninS nx372_y319.2.1 (ninS nx372_y319.2.2.2 nin0))
    have L373_y328 := L372_y328.keep K373 (ninS nx372_y328.1 (ninS nx372_y328.2.2.1 nin0)) (ninS nx372_y328.2.1 (ninS nx372_y328.2.2.2 nin0))
    have L373_y330 := L372_y330.keep K373 (ninS nx372_y330.1 (ninS nx372_y330.2.2.1 nin0)) (ninS nx372_y330.2.1 (ninS nx372_y330.2.2.2 nin0))
    obtain ⟨g373, hg373, B373⟩ : ∃ g : Nat → Int32, (∀ i, i < 1 → g i = StrChars.lo8 (([ca] : List Int32).getD i 0)) ∧ Sb Z h373 x371 t372 k372 16 1 g := ⟨_, own_ap1 (cs := []) (ds := [ca]) rfl rfl hg372, B373⟩
    refine P373.ldcK (pc1 := 306) (n := 12) (vs := [.int 32, .int 60, .int 32]) (z := 3) (wd hw (k := 235) rfl) wS hEL (by decide) ⟨by decide, by decide +kernel⟩ (by decide) (by decide) (by decide) (by decide) (by decide) (by decide) d14_304 rfl ?_
    intro y374 T374 h374 t374 k374 P374 E374 R374 A374 C374 F374 V374 N374 I374 M374
    have L374_y307 := L373_y307.ext E374
    have I374_y307 := Lit.stays I328_y307 M374
    have L374_y310 := L373_y310.ext E374
    have I374_y310 := Lit.stays I328_y310 M374
    have L374_y313 := L373_y313.ext E374
    have I374_y313 := Lit.stays I328_y313 M374
    have L374_y316 := L373_y316.ext E374
    have I374_y316 := Lit.stays I328_y316 M374
    have L374_y319 := L373_y319.ext E374
    have I374_y319 := Lit.stays I328_y319 M374
    have L374_y328 := L373_y328.ext E374
    have I374_y328 := Lit.stays I328 M374
    have L374_y330 := L373_y330.ext E374
    have LL374 : Lt Z h374 y374 t374 k374 3 (fun i => ([32, 60, 32] : List Int32).getD i 0) := ⟨A374, F374, C374, W.Arg.of 3 V374 rfl (by decide) (fun i hi => match i, hi with | 0, _ => rfl | 1, _ => rfl | 2, _ => rfl | k + 3, hk => absurd hk (Nat.not_lt.mpr (Nat.le_add_left _ _))), own_byD (cs := [32, 60, 32]) (List.forall_mem_cons.mpr ⟨(own_b 32), (List.forall_mem_cons.mpr ⟨(own_b 60), (List.forall_mem_cons.mpr ⟨(own_b 32), (fun c hc => absurd hc (List.not_mem_nil))⟩)⟩)⟩)⟩
    have B374 := B373.ext E374
    have Sx374 := R374.safe B373.1.lt Sx373
    have St374 := R374.safe B373.2.2.2.2.1.lt St373
    have nx374_y374 : ¬ y374 = x371 ∧ ¬ t374 = x371 ∧ ¬ y374 = t372 ∧ ¬ t374 = t372 := ⟨Ne.symm (N374 _ Sx374).1, Ne.symm (N374 _ Sx374).2, Ne.symm (N374 _ St374).1, Ne.symm (N374 _ St374).2⟩
    refine P374.callV (pc1 := 309) B374.1 (wd hw (k := 83) rfl) (wd hw (k := 84) rfl) (wd hw (k := 86) rfl) (wd hw (k := 85) rfl) (notFace_of_selects (args := #[]) (mvT P374.hz (wd hw (k := 86) rfl))) (by decide) (W.MetN.pay (W := 0) (c_sapp l Z a0 hw x371 t372 k372 16 1 g373 y374 t374 k374 3 (fun i => ([32, 60, 32] : List Int32).getD i 0) h374 B374 (LL374) (by decide) (P374.extZ EZ all0) zc fm US) P374 (wd hw (k := 87) rfl) (wd hw (k := 64) rfl) (by decide) (by decide)) (argsL := [(.ref y374)]) (st0 := []) (lenOf pd_Ljava_lang_String_R_Ljava_lang_StringBuilder rfl) rfl rfl (Nat.le_of_eq rfl) (by rw [hml]; rfl) (by decide) (by decide) (fun _ _ _ q => ⟨q.2.1.up P374.sz (allS (Or.inr hx371) (allS (Or.inr ht372) all0)), CHr.keep q.2.2.1 (sfS Sx374 (sfS St374 sf0)) P374.chv⟩) d14_306 rfl ?_
    intro v375 T375 h375 L375 q375 P375
    obtain ⟨rfl, f375, K375, B375⟩ := q375
    show W.Go p.tables e below _ (T375.setTop (mkF m 309 #[.val (.ref e9), .val (.ref sa), .val (.ref sb), .val (.ref st), .val (.ref y330)] [(.ref x371)]))
    have Sx375 : Safe Z ownEL _ h375 x371 := Safe.keep K375 (sfS Sx374 (sfS St374 sf0)) P374.chv Sx374
    have St375 : Safe Z ownEL _ h375 t372 := Safe.keep K375 (sfS Sx374 (sfS St374 sf0)) P374.chv St374
    have L375_y307 := L374_y307.keep K375 (ninS nx372_y307.1 (ninS nx372_y307.2.2.1 nin0)) (ninS nx372_y307.2.1 (ninS nx372_y307.2.2.2 nin0))
    have L375_y310 := L374_y310.keep K375 (ninS nx372_y310.1 (ninS nx372_y310.2.2.1 nin0)) (ninS nx372_y310.2.1 (ninS nx372_y310.2.2.2 nin0))
    have L375_y313 := L374_y313.keep K375 (ninS nx372_y313.1 (ninS nx372_y313.2.2.1 nin0)) (ninS nx372_y313.2.1 (ninS nx372_y313.2.2.2 nin0))
    have L375_y316 := L374_y316.keep K375 (ninS nx372_y316.1 (ninS nx372_y316.2.2.1 nin0)) (ninS nx372_y316.2.1 (ninS nx372_y316.2.2.2 nin0))
    have L375_y319 := L374_y319.keep K375 (ninS nx372_y319.1 (ninS nx372_y319.2.2.1 nin0)) (ninS nx372_y319.2.1 (ninS nx372_y319.2.2.2 nin0))
    have L375_y328 := L374_y328.keep K375 (ninS nx372_y328.1 (ninS nx372_y328.2.2.1 nin0)) (ninS nx372_y328.2.1 (ninS nx372_y328.2.2.2 nin0))
    have L375_y330 := L374_y330.keep K375 (ninS nx372_y330.1 (ninS nx372_y330.2.2.1 nin0)) (ninS nx372_y330.2.1 (ninS nx372_y330.2.2.2 nin0))
    have L375_y374 := LL374.keep K375 (ninS nx374_y374.1 (ninS nx374_y374.2.2.1 nin0)) (ninS nx374_y374.2.1 (ninS nx374_y374.2.2.2 nin0))
    obtain ⟨g375, hg375, B375⟩ : ∃ g : Nat → Int32, (∀ i, i < 4 → g i = StrChars.lo8 (([ca, 32, 60, 32] : List Int32).getD i 0)) ∧ Sb Z h375 x371 t372 k372 16 4 g := ⟨_, own_ap1 (cs := [ca]) (ds := [32, 60, 32]) rfl rfl hg373, B375⟩
    refine W.g_aloadN (pc1 := 310) P375.q d14_309 rfl rfl rfl ?_
    refine P375.callV (pc1 := 313) B375.1 (wd hw (k := 83) rfl) (wd hw (k := 84) rfl) (wd hw (k := 86) rfl) (wd hw (k := 85) rfl) (notFace_of_selects (args := #[]) (mvT P375.hz (wd hw (k := 86) rfl))) (by decide) (W.MetN.pay (W := 0) (c_sapp l Z a0 hw x371 t372 k372 16 4 g375 sb tb kb 1 (fun i => ([cb] : List Int32).getD i 0) h375 B375 (Lb.ext P375.ext0) (by decide) (P375.extZ EZ all0) zc fm US) P375 (wd hw (k := 87) rfl) (wd hw (k := 64) rfl) (by decide) (by decide)) (argsL := [(.ref sb)]) (st0 := []) (lenOf pd_Ljava_lang_String_R_Ljava_lang_StringBuilder rfl) rfl rfl (Nat.le_of_eq rfl) (by rw [hml]; rfl) (by decide) (by decide) (fun _ _ _ q => ⟨q.2.1.up P375.sz (allS (Or.inr hx371) (allS (Or.inr ht372) all0)), CHr.keep q.2.2.1 (sfS Sx375 (sfS St375 sf0)) P375.chv⟩) d14_310 rfl ?_
    intro v376 T376 h376 L376 q376 P376
    obtain ⟨rfl, f376, K376, B376⟩ := q376
    show W.Go p.tables e below _ (T376.setTop (mkF m 313 #[.val (.ref e9), .val (.ref sa), .val (.ref sb), .val (.ref st), .val (.ref y330)] [(.ref x371)]))
    have Sx376 : Safe Z ownEL _ h376 x371 := Safe.keep K376 (sfS Sx375 (sfS St375 sf0)) P375.chv Sx375
    have St376 : Safe Z ownEL _ h376 t372 := Safe.keep K376 (sfS Sx375 (sfS St375 sf0)) P375.chv St375
    have L376_y307 := L375_y307.keep K376 (ninS nx372_y307.1 (ninS nx372_y307.2.2.1 nin0)) (ninS nx372_y307.2.1 (ninS nx372_y307.2.2.2 nin0))
    have L376_y310 := L375_y310.keep K376 (ninS nx372_y310.1 (ninS nx372_y310.2.2.1 nin0)) (ninS nx372_y310.2.1 (ninS nx372_y310.2.2.2 nin0))
    have L376_y313 := L375_y313.keep K376 (ninS nx372_y313.1 (ninS nx372_y313.2.2.1 nin0)) (ninS nx372_y313.2.1 (ninS nx372_y313.2.2.2 nin0))
    have L376_y316 := L375_y316.keep K376 (ninS nx372_y316.1 (ninS nx372_y316.2.2.1 nin0)) (ninS nx372_y316.2.1 (ninS nx372_y316.2.2.2 nin0))
    have L376_y319 := L375_y319.keep K376 (ninS nx372_y319.1 (ninS nx372_y319.2.2.1 nin0)) (ninS nx372_y319.2.1 (ninS nx372_y319.2.2.2 nin0))
    have L376_y328 := L375_y328.keep K376 (ninS nx372_y328.1 (ninS nx372_y328.2.2.1 nin0)) (ninS nx372_y328.2.1 (ninS nx372_y328.2.2.2 nin0))
    have L376_y330 := L375_y330.keep K376 (ninS nx372_y330.1 (ninS nx372_y330.2.2.1 nin0)) (ninS nx372_y330.2.1 (ninS nx372_y330.2.2.2 nin0))
    have L376_y374 := L375_y374.keep K376 (ninS nx374_y374.1 (ninS nx374_y374.2.2.1 nin0)) (ninS nx374_y374.2.1 (ninS nx374_y374.2.2.2 nin0))
    obtain ⟨g376, hg376, B376⟩ : ∃ g : Nat → Int32, (∀ i, i < 5 → g i = StrChars.lo8 (([ca, 32, 60, 32, cb] : List Int32).getD i 0)) ∧ Sb Z h376 x371 t372 k372 16 5 g := ⟨_, own_ap1 (cs := [ca, 32, 60, 32]) (ds := [cb]) rfl rfl hg375, B376⟩
    refine P376.ldcK (pc1 := 315) (n := 16) (vs := [.int 32, .int 111, .int 114, .int 32]) (z := 4) (wd hw (k := 223) rfl) wS hEL (by decide) ⟨by decide, by decide +kernel⟩ (by decide) (by decide) (by decide) (by decide) (by decide) (by decide) d14_313 rfl ?_
    intro y377 T377 h377 t377 k377 P377 E377 R377 A377 C377 F377 V377 N377 I377 M377
    have L377_y307 := L376_y307.ext E377
    have I377_y307 := Lit.stays I374_y307 M377
    have L377_y310 := L376_y310.ext E377
    have I377_y310 := Lit.stays I374_y310 M377
    have L377_y313 := L376_y313.ext E377
    have I377_y313 := Lit.stays I374_y313 M377
    have L377_y316 := L376_y316.ext E377
    have I377_y316 := Lit.stays I374_y316 M377
    have L377_y319 := L376_y319.ext E377
    have I377_y319 := Lit.stays I374_y319 M377
    have L377_y328 := L376_y328.ext E377
    have I377_y328 := Lit.stays I374_y328 M377
    have L377_y330 := L376_y330.ext E377
    have L377_y374 := L376_y374.ext E377
    have I377_y374 := Lit.stays I374 M377
    have LL377 : Lt Z h377 y377 t377 k377 4 (fun i => ([32, 111, 114, 32] : List Int32).getD i 0) := ⟨A377, F377, C377, W.Arg.of 4 V377 rfl (by decide) (fun i hi => match i, hi with | 0, _ => rfl | 1, _ => rfl | 2, _ => rfl | 3, _ => rfl | k + 4, hk => absurd hk (Nat.not_lt.mpr (Nat.le_add_left _ _))), own_byD (cs := [32, 111, 114, 32]) (List.forall_mem_cons.mpr ⟨(own_b 32), (List.forall_mem_cons.mpr ⟨(own_b 111), (List.forall_mem_cons.mpr ⟨(own_b 114), (List.forall_mem_cons.mpr ⟨(own_b 32), (fun c hc => absurd hc (List.not_mem_nil))⟩)⟩)⟩)⟩)⟩
    have B377 := B376.ext E377
    have Sx377 := R377.safe B376.1.lt Sx376
    have St377 := R377.safe B376.2.2.2.2.1.lt St376
    have nx377_y377 : ¬ y377 = x371 ∧ ¬ t377 = x371 ∧ ¬ y377 = t372 ∧ ¬ t377 = t372 := ⟨Ne.symm (N377 _ Sx377).1, Ne.symm (N377 _ Sx377).2, Ne.symm (N377 _ St377).1, Ne.symm (N377 _ St377).2⟩
    refine P377.callV (pc1 := 318) B377.1 (wd hw (k := 83) rfl) (wd hw (k := 84) rfl) (wd hw (k := 86) rfl) (wd hw (k := 85) rfl) (notFace_of_selects (args := #[]) (mvT P377.hz (wd hw (k := 86) rfl))) (by decide) (W.MetN.pay (W := 0) (c_sapp l Z a0 hw x371 t372 k372 16 5 g376 y377 t377 k377 4 (fun i => ([32, 111, 114, 32] : List Int32).getD i 0) h377 B377 (LL377) (by decide) (P377.extZ EZ all0) zc fm US) P377 (wd hw (k := 87) rfl) (wd hw (k := 64) rfl) (by decide) (by decide)) (argsL := [(.ref y377)]) (st0 := []) (lenOf pd_Ljava_lang_String_R_Ljava_lang_StringBuilder rfl) rfl rfl (Nat.le_of_eq rfl) (by rw [hml]; rfl) (by decide) (by decide) (fun _ _ _ q => ⟨q.2.1.up P377.sz (allS (Or.inr hx371) (allS (Or.inr ht372) all0)), CHr.keep q.2.2.1 (sfS Sx377 (sfS St377 sf0)) P377.chv⟩) d14_315 rfl ?_
    intro v378 T378 h378 L378 q378 P378
    obtain ⟨rfl, f378, K378, B378⟩ := q378
    show W.Go p.tables e below _ (T378.setTop (mkF m 318 #[.val (.ref e9), .val (.ref sa), .val (.ref sb), .val (.ref st), .val (.ref y330)] [(.ref x371)]))
    have Sx378 : Safe Z ownEL _ h378 x371 := Safe.keep K378 (sfS Sx377 (sfS St377 sf0)) P377.chv Sx377
    have St378 : Safe Z ownEL _ h378 t372 := Safe.keep K378 (sfS Sx377 (sfS St377 sf0)) P377.chv St377
    have L378_y307 := L377_y307.keep K378 (ninS nx372_y307.1 (ninS nx372_y307.2.2.1 nin0)) (ninS nx372_y307.2.1 (ninS nx372_y307.2.2.2 nin0))
    have L378_y310 := L377_y310.keep K378 (ninS nx372_y310.1 (ninS nx372_y310.2.2.1 nin0)) (ninS nx372_y310.2.1 (ninS nx372_y310.2.2.2 nin0))
    have L378_y313 := L377_y313.keep K378 (ninS nx372_y313.1 (ninS nx372_y313.2.2.1 nin0)) (ninS nx372_y313.2.1 (ninS nx372_y313.2.2.2 nin0))
    have L378_y316 := L377_y316.keep K378 (ninS nx372_y316.1 (ninS nx372_y316.2.2.1 nin0)) (ninS nx372_y316.2.1 (ninS nx372_y316.2.2.2 nin0))
    have L378_y319 := L377_y319.keep K378 (ninS nx372_y319.1 (ninS nx372_y319.2.2.1 nin0)) (ninS nx372_y319.2.1 (ninS nx372_y319.2.2.2 nin0))
    have L378_y328 := L377_y328.keep K378 (ninS nx372_y328.1 (ninS nx372_y328.2.2.1 nin0)) (ninS nx372_y328.2.1 (ninS nx372_y328.2.2.2 nin0))
    have L378_y330 := L377_y330.keep K378 (ninS nx372_y330.1 (ninS nx372_y330.2.2.1 nin0)) (ninS nx372_y330.2.1 (ninS nx372_y330.2.2.2 nin0))
    have L378_y374 := L377_y374.keep K378 (ninS nx374_y374.1 (ninS nx374_y374.2.2.1 nin0)) (ninS nx374_y374.2.1 (ninS nx374_y374.2.2.2 nin0))
    have L378_y377 := LL377.keep K378 (ninS nx377_y377.1 (ninS nx377_y377.2.2.1 nin0)) (ninS nx377_y377.2.1 (ninS nx377_y377.2.2.2 nin0))
    obtain ⟨g378, hg378, B378⟩ : ∃ g : Nat → Int32, (∀ i, i < 9 → g i = StrChars.lo8 (([ca, 32, 60, 32, cb, 32, 111, 114, 32] : List Int32).getD i 0)) ∧ Sb Z h378 x371 t372 k372 16 9 g := ⟨_, own_ap1 (cs := [ca, 32, 60, 32, cb]) (ds := [32, 111, 114, 32]) rfl rfl hg376, B378⟩
    refine W.g_aload (pc1 := 320) P378.q d14_318 rfl rfl rfl ?_
    refine P378.callV (pc1 := 323) B378.1 (wd hw (k := 83) rfl) (wd hw (k := 84) rfl) (wd hw (k := 86) rfl) (wd hw (k := 85) rfl) (notFace_of_selects (args := #[]) (mvT P378.hz (wd hw (k := 86) rfl))) (by decide) (W.MetN.pay (W := 0) (c_sappg l Z a0 hw x371 t372 k372 16 9 g378 y330 a330 k330 52 (fun i => ([97, 98, 115, 40, ca, 32, 45, 32, cb, 41, 32, 60, 61, 32, ct, 32, 42, 32, 97, 98, 115, 40, ca, 41, 32, 111, 114, 32, 97, 98, 115, 40, ca, 32, 45, 32, cb, 41, 32, 60, 61, 32, ct, 32, 42, 32, 97, 98, 115, 40, cb, 41] : List Int32).getD i 0) h378 B378 (L378_y330) 61 (by decide) (by decide) (by decide) nx372_y330.1 nx372_y330.2.1 hzx371 (P378.extZ EZ all0) zc fm US) P378 (wd hw (k := 87) rfl) (wd hw (k := 64) rfl) (by decide) (by decide)) (argsL := [(.ref y330)]) (st0 := []) (lenOf pd_Ljava_lang_String_R_Ljava_lang_StringBuilder rfl) rfl rfl (Nat.le_of_eq rfl) (by rw [hml]; rfl) (by decide) (by decide) (fun _ _ _ q => ⟨q.2.1.up P378.sz (allS (Or.inr hx371) all0), CHr.keep q.2.2.1 (sfS Sx378 sf0) P378.chv⟩) d14_320 rfl ?_
    intro v379 T379 h379 L379 q379 P379
    obtain ⟨rfl, f379, K379, t379, k379, n379, B379⟩ := q379
    show W.Go p.tables e below _ (T379.setTop (mkF m 323 #[.val (.ref e9), .val (.ref sa), .val (.ref sb), .val (.ref st), .val (.ref y330)] [(.ref x371)]))
    have Sx379 : Safe Z ownEL _ h379 x371 := Safe.keep K379 (sfS Sx378 sf0) P378.chv Sx378
    have St379 : Safe Z ownEL _ h379 t379 := Safe.keep K379 (sfS Sx378 sf0) P378.chv (Safe.new n379)
    have ht379 : h0.size ≤ t379 := Nat.le_trans P378.sz n379
    have nx379_y307 : ¬ y307 = x371 ∧ ¬ t307 = x371 ∧ ¬ y307 = t379 ∧ ¬ t307 = t379 := ⟨nx372_y307.1, nx372_y307.2.1, Nat.ne_of_lt (Nat.lt_of_lt_of_le L378_y307.1.lt n379), Nat.ne_of_lt (Nat.lt_of_lt_of_le L378_y307.2.2.2.1.lt n379)⟩
    have L379_y307 := L378_y307.keep K379 (ninS nx372_y307.1 nin0) (ninS nx372_y307.2.1 nin0)
    have nx379_y310 : ¬ y310 = x371 ∧ ¬ t310 = x371 ∧ ¬ y310 = t379 ∧ ¬ t310 = t379 := ⟨nx372_y310.1, nx372_y310.2.1, Nat.ne_of_lt (Nat.lt_of_lt_of_le L378_y310.1.lt n379), Nat.ne_of_lt (Nat.lt_of_lt_of_le L378_y310.2.2.2.1.lt n379)⟩
    have L379_y310 := L378_y310.keep K379 (ninS nx372_y310.1 nin0) (ninS nx372_y310.2.1 nin0)
    have nx379_y313 : ¬ y313 = x371 ∧ ¬ t313 = x371 ∧ ¬ y313 = t379 ∧ ¬ t313 = t379 := ⟨nx372_y313.1, nx372_y313.2.1, Nat.ne_of_lt (Nat.lt_of_lt_of_le L378_y313.1.lt n379), Nat.ne_of_lt (Nat.lt_of_lt_of_le L378_y313.2.2.2.1.lt n379)⟩
    have L379_y313 := L378_y313.keep K379 (ninS nx372_y313.1 nin0) (ninS nx372_y313.2.1 nin0)
    have nx379_y316 : ¬ y316 = x371 ∧ ¬ t316 = x371 ∧ ¬ y316 = t379 ∧ ¬ t316 = t379 := ⟨nx372_y316.1, nx372_y316.2.1, Nat.ne_of_lt (Nat.lt_of_lt_of_le L378_y316.1.lt n379), Nat.ne_of_lt (Nat.lt_of_lt_of_le L378_y316.2.2.2.1.lt n379)⟩
    have L379_y316 := L378_y316.keep K379 (ninS nx372_y316.1 nin0) (ninS nx372_y316.2.1 nin0)
    have nx379_y319 : ¬ y319 = x371 ∧ ¬ t319 = x371 ∧ ¬ y319 = t379 ∧ ¬ t319 = t379 := ⟨nx372_y319.1, nx372_y319.2.1, Nat.ne_of_lt (Nat.lt_of_lt_of_le L378_y319.1.lt n379), Nat.ne_of_lt (Nat.lt_of_lt_of_le L378_y319.2.2.2.1.lt n379)⟩
    have L379_y319 := L378_y319.keep K379 (ninS nx372_y319.1 nin0) (ninS nx372_y319.2.1 nin0)
    have nx379_y328 : ¬ y328 = x371 ∧ ¬ t328 = x371 ∧ ¬ y328 = t379 ∧ ¬ t328 = t379 := ⟨nx372_y328.1, nx372_y328.2.1, Nat.ne_of_lt (Nat.lt_of_lt_of_le L378_y328.1.lt n379), Nat.ne_of_lt (Nat.lt_of_lt_of_le L378_y328.2.2.2.1.lt n379)⟩
    have L379_y328 := L378_y328.keep K379 (ninS nx372_y328.1 nin0) (ninS nx372_y328.2.1 nin0)
    have nx379_y330 : ¬ y330 = x371 ∧ ¬ a330 = x371 ∧ ¬ y330 = t379 ∧ ¬ a330 = t379 := ⟨nx372_y330.1, nx372_y330.2.1, Nat.ne_of_lt (Nat.lt_of_lt_of_le L378_y330.1.lt n379), Nat.ne_of_lt (Nat.lt_of_lt_of_le L378_y330.2.2.2.1.lt n379)⟩
    have L379_y330 := L378_y330.keep K379 (ninS nx372_y330.1 nin0) (ninS nx372_y330.2.1 nin0)
    have nx379_y374 : ¬ y374 = x371 ∧ ¬ t374 = x371 ∧ ¬ y374 = t379 ∧ ¬ t374 = t379 := ⟨nx374_y374.1, nx374_y374.2.1, Nat.ne_of_lt (Nat.lt_of_lt_of_le L378_y374.1.lt n379), Nat.ne_of_lt (Nat.lt_of_lt_of_le L378_y374.2.2.2.1.lt n379)⟩
    have L379_y374 := L378_y374.keep K379 (ninS nx374_y374.1 nin0) (ninS nx374_y374.2.1 nin0)
    have nx379_y377 : ¬ y377 = x371 ∧ ¬ t377 = x371 ∧ ¬ y377 = t379 ∧ ¬ t377 = t379 := ⟨nx377_y377.1, nx377_y377.2.1, Nat.ne_of_lt (Nat.lt_of_lt_of_le L378_y377.1.lt n379), Nat.ne_of_lt (Nat.lt_of_lt_of_le L378_y377.2.2.2.1.lt n379)⟩
    have L379_y377 := L378_y377.keep K379 (ninS nx377_y377.1 nin0) (ninS nx377_y377.2.1 nin0)
    obtain ⟨g379, hg379, B379⟩ : ∃ g : Nat → Int32, (∀ i, i < 61 → g i = StrChars.lo8 (([ca, 32, 60, 32, cb, 32, 111, 114, 32, 97, 98, 115, 40, ca, 32, 45, 32, cb, 41, 32, 60, 61, 32, ct, 32, 42, 32, 97, 98, 115, 40, ca, 41, 32, 111, 114, 32, 97, 98, 115, 40, ca, 32, 45, 32, cb, 41, 32, 60, 61, 32, ct, 32, 42, 32, 97, 98, 115, 40, cb, 41] : List Int32).getD i 0)) ∧ Sb Z h379 x371 t379 k379 61 61 g := ⟨_, own_ap1 (cs := [ca, 32, 60, 32, cb, 32, 111, 114, 32]) (ds := [97, 98, 115, 40, ca, 32, 45, 32, cb, 41, 32, 60, 61, 32, ct, 32, 42, 32, 97, 98, 115, 40, ca, 41, 32, 111, 114, 32, 97, 98, 115, 40, ca, 32, 45, 32, cb, 41, 32, 60, 61, 32, ct, 32, 42, 32, 97, 98, 115, 40, cb, 41]) rfl rfl (own_ap2 (cnt := 9) (by decide) hg378), B379⟩
    refine P379.callV (pc1 := 326) B379.1 (wd hw (k := 158) rfl) (wd hw (k := 159) rfl) (wd hw (k := 161) rfl) (wd hw (k := 160) rfl) (notFace_of_selects (args := #[]) (mvT P379.hz (wd hw (k := 161) rfl))) (by decide) (W.MetN.pay (W := 0) (c_tos l Z a0 hw x371 t379 k379 61 61 g379 (by decide) (by decide) h379 B379 (P379.extZ EZ all0) zc fm US) P379 (wd hw (k := 162) rfl) (wd hw (k := 64) rfl) (by decide) (by decide)) (argsL := []) (st0 := []) (lenOf pd__R_Ljava_lang_String rfl) rfl rfl (Nat.le_of_eq rfl) (by rw [hml]; rfl) (by decide) (by decide) (fun _ _ _ q => by obtain ⟨_, _, _, _, q2, q3, _⟩ := q; exact ⟨q2.up P379.sz all0, CHr.ext q3 P379.chv⟩) d14_323 rfl ?_
    intro v380 T380 h380 L380 q380 P380
    obtain ⟨y380, a380, k380, rfl, f380, E380, A380, F380, C380, G380⟩ := q380
    show W.Go p.tables e below _ (T380.setTop (mkF m 326 #[.val (.ref e9), .val (.ref sa), .val (.ref sb), .val (.ref st), .val (.ref y330)] [(.ref y380)]))
    have L380_y307 := L379_y307.ext E380
    have L380_y310 := L379_y310.ext E380
    have L380_y313 := L379_y313.ext E380
    have L380_y316 := L379_y316.ext E380
    have L380_y319 := L379_y319.ext E380
    have L380_y328 := L379_y328.ext E380
    have L380_y330 := L379_y330.ext E380
    have L380_y374 := L379_y374.ext E380
    have L380_y377 := L379_y377.ext E380
    have SR : W.Str Z h380 y380 (own_E5 ca cb ct) := own_toStr A380 F380 C380 G380 rfl (by decide) (fun i hi => hg379 i hi) (own_Eb5 ca cb ct ba bb bt)
    exact P380.retAW hEL hlk hret rfl rfl rfl d14_326 (by decide) (by decide) ⟨y380, rfl, P380.fr, P380.ext0, SR⟩
theorem own_i2c (x : Int32) : By (x &&& 255).toUInt32.toUInt16.toUInt32.toInt32 := by
  have e : (x &&& 255).toUInt32.toUInt16.toUInt32.toInt32 = x &&& 255 := own_nar255 x
  rw [e]; exact own_m255 x
def En (Z : State) (h : Heap) (q0 q1 q2 q3 q4 q5 : Addr) : Prop := Sta Z h site_118.cls "EQ" own_cd (.ref q0) ∧ Sta Z h site_118.cls "NE" own_cd (.ref q1) ∧ Sta Z h site_118.cls "GT" own_cd (.ref q2) ∧ Sta Z h site_118.cls "GE" own_cd (.ref q3) ∧ Sta Z h site_118.cls "LT" own_cd (.ref q4) ∧ Sta Z h site_118.cls "LE" own_cd (.ref q5) ∧ Exa Z h q0 site_118.cls ∧ Exa Z h q1 site_118.cls ∧ Exa Z h q2 site_118.cls ∧ Exa Z h q3 site_118.cls ∧ Exa Z h q4 site_118.cls ∧ Exa Z h q5 site_118.cls ∧ Fld Z h q0 "java/lang/Enum" "ordinal" "I" (.int 0) ∧ Fld Z h q1 "java/lang/Enum" "ordinal" "I" (.int 1) ∧ Fld Z h q2 "java/lang/Enum" "ordinal" "I" (.int 2) ∧ Fld Z h q3 "java/lang/Enum" "ordinal" "I" (.int 3) ∧ Fld Z h q4 "java/lang/Enum" "ordinal" "I" (.int 4) ∧ Fld Z h q5 "java/lang/Enum" "ordinal" "I" (.int 5)
theorem En.ext {Z : State} {h h' : Heap} {q0 q1 q2 q3 q4 q5 : Addr} (S : En Z h q0 q1 q2 q3 q4 q5) (E : Ext h h') : En Z h' q0 q1 q2 q3 q4 q5 := ⟨(S.1).ext E, (S.2.1).ext E, (S.2.2.1).ext E, (S.2.2.2.1).ext E, (S.2.2.2.2.1).ext E, (S.2.2.2.2.2.1).ext E, (S.2.2.2.2.2.2.1).ext E, (S.2.2.2.2.2.2.2.1).ext E, (S.2.2.2.2.2.2.2.2.1).ext E, (S.2.2.2.2.2.2.2.2.2.1).ext E, (S.2.2.2.2.2.2.2.2.2.2.1).ext E, (S.2.2.2.2.2.2.2.2.2.2.2.1).ext E, (S.2.2.2.2.2.2.2.2.2.2.2.2.1).ext E, (S.2.2.2.2.2.2.2.2.2.2.2.2.2.1).ext E, (S.2.2.2.2.2.2.2.2.2.2.2.2.2.2.1).ext E, (S.2.2.2.2.2.2.2.2.2.2.2.2.2.2.2.1).ext E, (S.2.2.2.2.2.2.2.2.2.2.2.2.2.2.2.2.1).ext E, (S.2.2.2.2.2.2.2.2.2.2.2.2.2.2.2.2.2).ext E⟩
def Q1 (n : Nat) (v : Option Value) (h : Heap) (L : List Loc) : Prop := v = some (.int 1) ∧ W.Frw [] n L
set_option maxRecDepth 65536 in
set_option maxHeartbeats 40000000 in
theorem rm1 (l : Launch) (Z : State) (a0 : Array Value) (hw : ∀ d ∈ tables_1, d.before a0 Z = true) (wS : ∀ a ∈ Bundle.stringAtoms, a.before a0 Z = true) (hEL : EW Z a0 ownEL) (aa ab at_ : Int32) (q0 q1 q2 q3 q4 q5 : Addr) (h0 : Heap) (S : En Z h0 q0 q1 q2 q3 q4 q5) (EZ : Ext Z.heap h0) (zc : Int32) (fm : Value) (US : UST Z zc fm) : W.MetW l Z ownEL x code maxLocals (ret) tables_1 room_1 #[.int aa, .int ab, .int at_] [] h0 (Q1 h0.size) := by
  refine W.MetW.mk (ls0 := #[.val (.int aa), .val (.int ab), .val (.int at_), .unset, .unset, .unset, .unset, .unset, .unset, .unset, .unset, .unset, .unset, .unset, .unset]) [] (plainFor_of_name pn_law) (fun m => by first | (simp [entryFrame, mkF, argsToLocals, Value.category, maxLocals]; done) | rfl) ?_
  intro p e s m below meth c s₁ hml hret hnm hlk hss P0
  have hml : c.maxLocals = 15 := hml
  show W.Go p.tables e below _ (s₁.setTop (mkF m 0 #[.val (.int aa), .val (.int ab), .val (.int at_), .unset, .unset, .unset, .unset, .unset, .unset, .unset, .unset, .unset, .unset, .unset, .unset] []))
  have hwq : ∀ d ∈ StrChars.Road.wordsEq, d.before a0 Z = true := fun d hd => hw d (own_wordsEq d hd)
  refine W.g_iloadN (pc1 := 1) P0.q at_0 rfl rfl ?_
  refine W.g_sipush (pc1 := 4) (v := (255 : Int32)) P0.q at_1 (by decide) rfl ?_
  refine W.g_iand (pc1 := 5) P0.q at_4 rfl ?_
  refine W.g_i2c (pc1 := 6) P0.q at_5 rfl ?_
  obtain ⟨ca, eca, ba⟩ : ∃ c : Int32, c = (aa &&& (255 : Int32)).toUInt32.toUInt16.toUInt32.toInt32 ∧ By c := ⟨_, rfl, own_i2c _⟩
  rw [← eca]
  show W.Go p.tables e below _ (s₁.setTop (mkF m 6 #[.val (.int aa), .val (.int ab), .val (.int at_), .unset, .unset, .unset, .unset, .unset, .unset, .unset, .unset, .unset, .unset, .unset, .unset] [(.int ca)]))
  refine W.g_istoreN (pc1 := 7) (ls2 := #[.val (.int aa), .val (.int ab), .val (.int at_), .val (.int ca), .unset, .unset, .unset, .unset, .unset, .unset, .unset, .unset, .unset, .unset, .unset]) P0.q at_6 rfl rfl ?_
  refine W.g_iloadN (pc1 := 8) P0.q at_7 rfl rfl ?_
  refine W.g_sipush (pc1 := 11) (v := (255 : Int32)) P0.q at_8 (by decide) rfl ?_
  refine W.g_iand (pc1 := 12) P0.q at_11 rfl ?_
  refine W.g_i2c (pc1 := 13) P0.q at_12 rfl ?_
  obtain ⟨cb, ecb, bb⟩ : ∃ c : Int32, c = (ab &&& (255 : Int32)).toUInt32.toUInt16.toUInt32.toInt32 ∧ By c := ⟨_, rfl, own_i2c _⟩
  rw [← ecb]
  show W.Go p.tables e below _ (s₁.setTop (mkF m 13 #[.val (.int aa), .val (.int ab), .val (.int at_), .val (.int ca), .unset, .unset, .unset, .unset, .unset, .unset, .unset, .unset, .unset, .unset, .unset] [(.int cb)]))
  refine W.g_istore (pc1 := 15) (ls2 := #[.val (.int aa), .val (.int ab), .val (.int at_), .val (.int ca), .val (.int cb), .unset, .unset, .unset, .unset, .unset, .unset, .unset, .unset, .unset, .unset]) P0.q at_13 rfl rfl ?_
  refine W.g_iloadN (pc1 := 16) P0.q at_15 rfl rfl ?_
  refine W.g_sipush (pc1 := 19) (v := (255 : Int32)) P0.q at_16 (by decide) rfl ?_
  refine W.g_iand (pc1 := 20) P0.q at_19 rfl ?_
  refine W.g_i2c (pc1 := 21) P0.q at_20 rfl ?_
  obtain ⟨ct, ect, bt⟩ : ∃ c : Int32, c = (at_ &&& (255 : Int32)).toUInt32.toUInt16.toUInt32.toInt32 ∧ By c := ⟨_, rfl, own_i2c _⟩
  rw [← ect]
  show W.Go p.tables e below _ (s₁.setTop (mkF m 21 #[.val (.int aa), .val (.int ab), .val (.int at_), .val (.int ca), .val (.int cb), .unset, .unset, .unset, .unset, .unset, .unset, .unset, .unset, .unset, .unset] [(.int ct)]))
  refine W.g_istore (pc1 := 23) (ls2 := #[.val (.int aa), .val (.int ab), .val (.int at_), .val (.int ca), .val (.int cb), .val (.int ct), .unset, .unset, .unset, .unset, .unset, .unset, .unset, .unset, .unset]) P0.q at_21 rfl rfl ?_
  refine W.g_iloadN (pc1 := 24) P0.q at_23 rfl rfl ?_
  refine P0.callS (pc1 := 27) (wd hw (k := 0) rfl) (wd hw (k := 1) rfl) (wd hw (k := 2) rfl) (wd hw (k := 3) rfl) (by decide) (W.MetN.pay (W := 0) (c_vof l Z a0 hw ca ba h0 (P0.extZ EZ all0) zc fm US) P0 (wd hw (k := 3) rfl) (wd hw (k := 2) rfl) (by decide) (by decide)) (argsL := [(.int ca)]) (st0 := []) (lenOf pd_C_R_Ljava_lang_String rfl) rfl rfl (Nat.le_of_eq rfl) (by rw [hml]; rfl) (by decide) (by decide) (fun _ _ _ q => by obtain ⟨_, _, q2, q3, _⟩ := q; exact ⟨q2.up P0.sz all0, CHr.ext q3 P0.chv⟩) at_24 rfl ?_
  intro v381 T381 h381 L381 q381 P381
  obtain ⟨y381, rfl, f381, E381, Y381⟩ := q381
  show W.Go p.tables e below _ (T381.setTop (mkF m 27 #[.val (.int aa), .val (.int ab), .val (.int at_), .val (.int ca), .val (.int cb), .val (.int ct), .unset, .unset, .unset, .unset, .unset, .unset, .unset, .unset, .unset] [(.ref y381)]))
  refine W.g_astore (pc1 := 29) (ls2 := #[.val (.int aa), .val (.int ab), .val (.int at_), .val (.int ca), .val (.int cb), .val (.int ct), .val (.ref y381), .unset, .unset, .unset, .unset, .unset, .unset, .unset, .unset]) P381.q at_27 rfl rfl rfl ?_
  refine W.g_iload (pc1 := 31) P381.q at_29 rfl rfl ?_
  refine P381.callS (pc1 := 34) (wd hw (k := 0) rfl) (wd hw (k := 1) rfl) (wd hw (k := 2) rfl) (wd hw (k := 3) rfl) (by decide) (W.MetN.pay (W := 0) (c_vof l Z a0 hw cb bb h381 (P381.extZ EZ all0) zc fm US) P381 (wd hw (k := 3) rfl) (wd hw (k := 2) rfl) (by decide) (by decide)) (argsL := [(.int cb)]) (st0 := []) (lenOf pd_C_R_Ljava_lang_String rfl) rfl rfl (Nat.le_of_eq rfl) (by rw [hml]; rfl) (by decide) (by decide) (fun _ _ _ q => by obtain ⟨_, _, q2, q3, _⟩ := q; exact ⟨q2.up P381.sz all0, CHr.ext q3 P381.chv⟩) at_31 rfl ?_
  intro v382 T382 h382 L382 q382 P382
  obtain ⟨y382, rfl, f382, E382, Y382⟩ := q382
  show W.Go p.tables e below _ (T382.setTop (mkF m 34 #[.val (.int aa), .val (.int ab), .val (.int at_), .val (.int ca), .val (.int cb), .val (.int ct), .val (.ref y381), .unset, .unset, .unset, .unset, .unset, .unset, .unset, .unset] [(.ref y382)]))
  have a_383 := Y381.ext E382
  refine W.g_astore (pc1 := 36) (ls2 := #[.val (.int aa), .val (.int ab), .val (.int at_), .val (.int ca), .val (.int cb), .val (.int ct), .val (.ref y381), .val (.ref y382), .unset, .unset, .unset, .unset, .unset, .unset, .unset]) P382.q at_34 rfl rfl rfl ?_
  refine W.g_iload (pc1 := 38) P382.q at_36 rfl rfl ?_
  refine P382.callS (pc1 := 41) (wd hw (k := 0) rfl) (wd hw (k := 1) rfl) (wd hw (k := 2) rfl) (wd hw (k := 3) rfl) (by decide) (W.MetN.pay (W := 0) (c_vof l Z a0 hw ct bt h382 (P382.extZ EZ all0) zc fm US) P382 (wd hw (k := 3) rfl) (wd hw (k := 2) rfl) (by decide) (by decide)) (argsL := [(.int ct)]) (st0 := []) (lenOf pd_C_R_Ljava_lang_String rfl) rfl rfl (Nat.le_of_eq rfl) (by rw [hml]; rfl) (by decide) (by decide) (fun _ _ _ q => by obtain ⟨_, _, q2, q3, _⟩ := q; exact ⟨q2.up P382.sz all0, CHr.ext q3 P382.chv⟩) at_38 rfl ?_
  intro v384 T384 h384 L384 q384 P384
  obtain ⟨y384, rfl, f384, E384, Y384⟩ := q384
  show W.Go p.tables e below _ (T384.setTop (mkF m 41 #[.val (.int aa), .val (.int ab), .val (.int at_), .val (.int ca), .val (.int cb), .val (.int ct), .val (.ref y381), .val (.ref y382), .unset, .unset, .unset, .unset, .unset, .unset, .unset] [(.ref y384)]))
  have a_385 := a_383.ext E384
  have b_386 := Y382.ext E384
  refine W.g_astore (pc1 := 43) (ls2 := #[.val (.int aa), .val (.int ab), .val (.int at_), .val (.int ca), .val (.int cb), .val (.int ct), .val (.ref y381), .val (.ref y382), .val (.ref y384), .unset, .unset, .unset, .unset, .unset, .unset]) P384.q at_41 rfl rfl rfl ?_
  refine W.g_iconst (pc1 := 44) (v := (0 : Int32)) P384.q at_43 (by decide) rfl ?_
  refine W.g_iloadN (pc1 := 45) P384.q at_44 rfl rfl ?_
  refine W.g_iload (pc1 := 47) P384.q at_45 rfl rfl ?_
  refine W.g_iload (pc1 := 49) P384.q at_47 rfl rfl ?_
  refine P384.callS (pc1 := 52) (wd hw (k := 26) rfl) (wd hw (k := 27) rfl) (wd hw (k := 28) rfl) (wd hw (k := 29) rfl) (by decide) (W.MetN.pay (W := 0) (c_exp0 l Z a0 hw ca cb ct ba bb bt h384 (P384.extZ EZ all0) zc fm US) P384 (wd hw (k := 29) rfl) (wd hw (k := 28) rfl) (by decide) (by decide)) (argsL := [(.int (0 : Int32)), (.int ca), (.int cb), (.int ct)]) (st0 := []) (lenOf pd_ICCC_R_Ljava_lang_String rfl) rfl rfl (Nat.le_of_eq rfl) (by rw [hml]; rfl) (by decide) (by decide) (fun _ _ _ q => by obtain ⟨_, _, q2, q3, _⟩ := q; exact ⟨q2.up P384.sz all0, CHr.ext q3 P384.chv⟩) at_49 rfl ?_
  intro v387 T387 h387 L387 q387 P387
  obtain ⟨y387, rfl, f387, E387, Y387⟩ := q387
  show W.Go p.tables e below _ (T387.setTop (mkF m 52 #[.val (.int aa), .val (.int ab), .val (.int at_), .val (.int ca), .val (.int cb), .val (.int ct), .val (.ref y381), .val (.ref y382), .val (.ref y384), .unset, .unset, .unset, .unset, .unset, .unset] [(.ref y387)]))
  have a_388 := a_385.ext E387
  have b_389 := b_386.ext E387
  have t_390 := Y384.ext E387
  refine W.g_astore (pc1 := 54) (ls2 := #[.val (.int aa), .val (.int ab), .val (.int at_), .val (.int ca), .val (.int cb), .val (.int ct), .val (.ref y381), .val (.ref y382), .val (.ref y384), .val (.ref y387), .unset, .unset, .unset, .unset, .unset]) P387.q at_52 rfl rfl rfl ?_
  refine W.g_iconst (pc1 := 55) (v := (1 : Int32)) P387.q at_54 (by decide) rfl ?_
  refine W.g_iloadN (pc1 := 56) P387.q at_55 rfl rfl ?_
  refine W.g_iload (pc1 := 58) P387.q at_56 rfl rfl ?_
  refine W.g_iload (pc1 := 60) P387.q at_58 rfl rfl ?_
  refine P387.callS (pc1 := 63) (wd hw (k := 26) rfl) (wd hw (k := 27) rfl) (wd hw (k := 28) rfl) (wd hw (k := 29) rfl) (by decide) (W.MetN.pay (W := 0) (c_exp1 l Z a0 hw ca cb ct ba bb bt h387 (P387.extZ EZ all0) zc fm US) P387 (wd hw (k := 29) rfl) (wd hw (k := 28) rfl) (by decide) (by decide)) (argsL := [(.int (1 : Int32)), (.int ca), (.int cb), (.int ct)]) (st0 := []) (lenOf pd_ICCC_R_Ljava_lang_String rfl) rfl rfl (Nat.le_of_eq rfl) (by rw [hml]; rfl) (by decide) (by decide) (fun _ _ _ q => by obtain ⟨_, _, q2, q3, _⟩ := q; exact ⟨q2.up P387.sz all0, CHr.ext q3 P387.chv⟩) at_60 rfl ?_
  intro v391 T391 h391 L391 q391 P391
  obtain ⟨y391, rfl, f391, E391, Y391⟩ := q391
  show W.Go p.tables e below _ (T391.setTop (mkF m 63 #[.val (.int aa), .val (.int ab), .val (.int at_), .val (.int ca), .val (.int cb), .val (.int ct), .val (.ref y381), .val (.ref y382), .val (.ref y384), .val (.ref y387), .unset, .unset, .unset, .unset, .unset] [(.ref y391)]))
  have a_392 := a_388.ext E391
  have b_393 := b_389.ext E391
  have t_394 := t_390.ext E391
  have e0_395 := Y387.ext E391
  refine W.g_astore (pc1 := 65) (ls2 := #[.val (.int aa), .val (.int ab), .val (.int at_), .val (.int ca), .val (.int cb), .val (.int ct), .val (.ref y381), .val (.ref y382), .val (.ref y384), .val (.ref y387), .val (.ref y391), .unset, .unset, .unset, .unset]) P391.q at_63 rfl rfl rfl ?_
  refine W.g_iconst (pc1 := 66) (v := (2 : Int32)) P391.q at_65 (by decide) rfl ?_
  refine W.g_iloadN (pc1 := 67) P391.q at_66 rfl rfl ?_
  refine W.g_iload (pc1 := 69) P391.q at_67 rfl rfl ?_
  refine W.g_iload (pc1 := 71) P391.q at_69 rfl rfl ?_
  refine P391.callS (pc1 := 74) (wd hw (k := 26) rfl) (wd hw (k := 27) rfl) (wd hw (k := 28) rfl) (wd hw (k := 29) rfl) (by decide) (W.MetN.pay (W := 0) (c_exp2 l Z a0 hw ca cb ct ba bb bt h391 (P391.extZ EZ all0) zc fm US) P391 (wd hw (k := 29) rfl) (wd hw (k := 28) rfl) (by decide) (by decide)) (argsL := [(.int (2 : Int32)), (.int ca), (.int cb), (.int ct)]) (st0 := []) (lenOf pd_ICCC_R_Ljava_lang_String rfl) rfl rfl (Nat.le_of_eq rfl) (by rw [hml]; rfl) (by decide) (by decide) (fun _ _ _ q => by obtain ⟨_, _, q2, q3, _⟩ := q; exact ⟨q2.up P391.sz all0, CHr.ext q3 P391.chv⟩) at_71 rfl ?_
  intro v396 T396 h396 L396 q396 P396
  obtain ⟨y396, rfl, f396, E396, Y396⟩ := q396
  show W.Go p.tables e below _ (T396.setTop (mkF m 74 #[.val (.int aa), .val (.int ab), .val (.int at_), .val (.int ca), .val (.int cb), .val (.int ct), .val (.ref y381), .val (.ref y382), .val (.ref y384), .val (.ref y387), .val (.ref y391), .unset, .unset, .unset, .unset] [(.ref y396)]))
  have a_397 := a_392.ext E396
  have b_398 := b_393.ext E396
  have t_399 := t_394.ext E396
  have e0_400 := e0_395.ext E396
  have e1_401 := Y391.ext E396
  refine W.g_astore (pc1 := 76) (ls2 := #[.val (.int aa), .val (.int ab), .val (.int at_), .val (.int ca), .val (.int cb), .val (.int ct), .val (.ref y381), .val (.ref y382), .val (.ref y384), .val (.ref y387), .val (.ref y391), .val (.ref y396), .unset, .unset, .unset]) P396.q at_74 rfl rfl rfl ?_
  refine W.g_iconst (pc1 := 77) (v := (3 : Int32)) P396.q at_76 (by decide) rfl ?_
  refine W.g_iloadN (pc1 := 78) P396.q at_77 rfl rfl ?_
  refine W.g_iload (pc1 := 80) P396.q at_78 rfl rfl ?_
  refine W.g_iload (pc1 := 82) P396.q at_80 rfl rfl ?_
  refine P396.callS (pc1 := 85) (wd hw (k := 26) rfl) (wd hw (k := 27) rfl) (wd hw (k := 28) rfl) (wd hw (k := 29) rfl) (by decide) (W.MetN.pay (W := 0) (c_exp3 l Z a0 hw ca cb ct ba bb bt h396 (P396.extZ EZ all0) zc fm US) P396 (wd hw (k := 29) rfl) (wd hw (k := 28) rfl) (by decide) (by decide)) (argsL := [(.int (3 : Int32)), (.int ca), (.int cb), (.int ct)]) (st0 := []) (lenOf pd_ICCC_R_Ljava_lang_String rfl) rfl rfl (Nat.le_of_eq rfl) (by rw [hml]; rfl) (by decide) (by decide) (fun _ _ _ q => by obtain ⟨_, _, q2, q3, _⟩ := q; exact ⟨q2.up P396.sz all0, CHr.ext q3 P396.chv⟩) at_82 rfl ?_
  intro v402 T402 h402 L402 q402 P402
  obtain ⟨y402, rfl, f402, E402, Y402⟩ := q402
  show W.Go p.tables e below _ (T402.setTop (mkF m 85 #[.val (.int aa), .val (.int ab), .val (.int at_), .val (.int ca), .val (.int cb), .val (.int ct), .val (.ref y381), .val (.ref y382), .val (.ref y384), .val (.ref y387), .val (.ref y391), .val (.ref y396), .unset, .unset, .unset] [(.ref y402)]))
  have a_403 := a_397.ext E402
  have b_404 := b_398.ext E402
  have t_405 := t_399.ext E402
  have e0_406 := e0_400.ext E402
  have e1_407 := e1_401.ext E402
  have e2_408 := Y396.ext E402
  refine W.g_astore (pc1 := 87) (ls2 := #[.val (.int aa), .val (.int ab), .val (.int at_), .val (.int ca), .val (.int cb), .val (.int ct), .val (.ref y381), .val (.ref y382), .val (.ref y384), .val (.ref y387), .val (.ref y391), .val (.ref y396), .val (.ref y402), .unset, .unset]) P402.q at_85 rfl rfl rfl ?_
  refine W.g_iconst (pc1 := 88) (v := (4 : Int32)) P402.q at_87 (by decide) rfl ?_
  refine W.g_iloadN (pc1 := 89) P402.q at_88 rfl rfl ?_
  refine W.g_iload (pc1 := 91) P402.q at_89 rfl rfl ?_
  refine W.g_iload (pc1 := 93) P402.q at_91 rfl rfl ?_
  refine P402.callS (pc1 := 96) (wd hw (k := 26) rfl) (wd hw (k := 27) rfl) (wd hw (k := 28) rfl) (wd hw (k := 29) rfl) (by decide) (W.MetN.pay (W := 0) (c_exp4 l Z a0 hw ca cb ct ba bb bt h402 (P402.extZ EZ all0) zc fm US) P402 (wd hw (k := 29) rfl) (wd hw (k := 28) rfl) (by decide) (by decide)) (argsL := [(.int (4 : Int32)), (.int ca), (.int cb), (.int ct)]) (st0 := []) (lenOf pd_ICCC_R_Ljava_lang_String rfl) rfl rfl (Nat.le_of_eq rfl) (by rw [hml]; rfl) (by decide) (by decide) (fun _ _ _ q => by obtain ⟨_, _, q2, q3, _⟩ := q; exact ⟨q2.up P402.sz all0, CHr.ext q3 P402.chv⟩) at_93 rfl ?_
  intro v409 T409 h409 L409 q409 P409
  obtain ⟨y409, rfl, f409, E409, Y409⟩ := q409
  show W.Go p.tables e below _ (T409.setTop (mkF m 96 #[.val (.int aa), .val (.int ab), .val (.int at_), .val (.int ca), .val (.int cb), .val (.int ct), .val (.ref y381), .val (.ref y382), .val (.ref y384), .val (.ref y387), .val (.ref y391), .val (.ref y396), .val (.ref y402), .unset, .unset] [(.ref y409)]))
  have a_410 := a_403.ext E409
  have b_411 := b_404.ext E409
  have t_412 := t_405.ext E409
  have e0_413 := e0_406.ext E409
  have e1_414 := e1_407.ext E409
  have e2_415 := e2_408.ext E409
  have e3_416 := Y402.ext E409
  refine W.g_astore (pc1 := 98) (ls2 := #[.val (.int aa), .val (.int ab), .val (.int at_), .val (.int ca), .val (.int cb), .val (.int ct), .val (.ref y381), .val (.ref y382), .val (.ref y384), .val (.ref y387), .val (.ref y391), .val (.ref y396), .val (.ref y402), .val (.ref y409), .unset]) P409.q at_96 rfl rfl rfl ?_
  refine W.g_iconst (pc1 := 99) (v := (5 : Int32)) P409.q at_98 (by decide) rfl ?_
  refine W.g_iloadN (pc1 := 100) P409.q at_99 rfl rfl ?_
  refine W.g_iload (pc1 := 102) P409.q at_100 rfl rfl ?_
  refine W.g_iload (pc1 := 104) P409.q at_102 rfl rfl ?_
  refine P409.callS (pc1 := 107) (wd hw (k := 26) rfl) (wd hw (k := 27) rfl) (wd hw (k := 28) rfl) (wd hw (k := 29) rfl) (by decide) (W.MetN.pay (W := 0) (c_exp5 l Z a0 hw ca cb ct ba bb bt h409 (P409.extZ EZ all0) zc fm US) P409 (wd hw (k := 29) rfl) (wd hw (k := 28) rfl) (by decide) (by decide)) (argsL := [(.int (5 : Int32)), (.int ca), (.int cb), (.int ct)]) (st0 := []) (lenOf pd_ICCC_R_Ljava_lang_String rfl) rfl rfl (Nat.le_of_eq rfl) (by rw [hml]; rfl) (by decide) (by decide) (fun _ _ _ q => by obtain ⟨_, _, q2, q3, _⟩ := q; exact ⟨q2.up P409.sz all0, CHr.ext q3 P409.chv⟩) at_104 rfl ?_
  intro v417 T417 h417 L417 q417 P417
  obtain ⟨y417, rfl, f417, E417, Y417⟩ := q417
  show W.Go p.tables e below _ (T417.setTop (mkF m 107 #[.val (.int aa), .val (.int ab), .val (.int at_), .val (.int ca), .val (.int cb), .val (.int ct), .val (.ref y381), .val (.ref y382), .val (.ref y384), .val (.ref y387), .val (.ref y391), .val (.ref y396), .val (.ref y402), .val (.ref y409), .unset] [(.ref y417)]))
  have a_418 := a_410.ext E417
  have b_419 := b_411.ext E417
  have t_420 := t_412.ext E417
  have e0_421 := e0_413.ext E417
  have e1_422 := e1_414.ext E417
  have e2_423 := e2_415.ext E417
  have e3_424 := e3_416.ext E417
  have e4_425 := Y409.ext E417
  refine W.g_astore (pc1 := 109) (ls2 := #[.val (.int aa), .val (.int ab), .val (.int at_), .val (.int ca), .val (.int cb), .val (.int ct), .val (.ref y381), .val (.ref y382), .val (.ref y384), .val (.ref y387), .val (.ref y391), .val (.ref y396), .val (.ref y402), .val (.ref y409), .val (.ref y417)]) P417.q at_107 rfl rfl rfl ?_
  refine P417.getS (pc1 := 112) (wd hw (k := 54) rfl) Via.refl (S.1.ext P417.ext0) at_109 rfl ?_
  intro T426 P426
  refine W.g_aload (pc1 := 114) P426.q at_112 rfl rfl rfl ?_
  refine W.g_aload (pc1 := 116) P426.q at_114 rfl rfl rfl ?_
  refine W.g_aload (pc1 := 118) P426.q at_116 rfl rfl rfl ?_
  refine P426.callVW (pc1 := 121) (S.2.2.2.2.2.2.1.ext P426.ext0) (wd hw (k := 57) rfl) (wd hw (k := 58) rfl) (wd hw (k := 60) rfl) (wd hw (k := 59) rfl) (notFace_of_selects (args := #[]) (mvT P426.hz (wd hw (k := 60) rfl))) (by decide) (W.MetW.pay (W := 0) (c_hql l Z a0 hw wS hEL q0 y381 y382 y384 ca cb ct ba bb bt 0 (Or.inl rfl) h417 (S.2.2.2.2.2.2.1.ext P426.ext0) (S.2.2.2.2.2.2.2.2.2.2.2.2.1.ext P426.ext0) a_418 b_419 t_420 (P426.extZ EZ all0) zc fm US) P426 hEL all0 (wd hw (k := 61) rfl) (wd hw (k := 55) rfl) (by decide) (by decide)) (argsL := [(.ref y381), (.ref y382), (.ref y384)]) (st0 := []) (lenOf pd_Ljava_lang_StringLjava_lang_StringLjava_lang_String_R_Ljava_lang_String rfl) rfl rfl (Nat.le_of_eq rfl) (by rw [hml]; rfl) (by decide) (by decide) (fun _ _ _ q => by obtain ⟨_, _, q2, _⟩ := q; exact q2.up P426.sz all0) at_118 rfl ?_
  intro v427 T427 h427 L427 q427 P427 R427
  obtain ⟨y427, rfl, f427, E427, Y427⟩ := q427
  show W.Go p.tables e below _ (T427.setTop (mkF m 121 #[.val (.int aa), .val (.int ab), .val (.int at_), .val (.int ca), .val (.int cb), .val (.int ct), .val (.ref y381), .val (.ref y382), .val (.ref y384), .val (.ref y387), .val (.ref y391), .val (.ref y396), .val (.ref y402), .val (.ref y409), .val (.ref y417)] [(.ref y427)]))
  have a_428 := a_418.ext E427
  have b_429 := b_419.ext E427
  have t_430 := t_420.ext E427
  have e0_431 := e0_421.ext E427
  have e1_432 := e1_422.ext E427
  have e2_433 := e2_423.ext E427
  have e3_434 := e3_424.ext E427
  have e4_435 := e4_425.ext E427
  have e5_436 := Y417.ext E427
  have YE0 : W.Str Z h427 y427 (own_E0 ca cb ct) := Y427
  refine W.g_aload (pc1 := 123) P427.q at_121 rfl rfl rfl ?_
  refine P427.callV (pc1 := 126) YE0.exa (wd hw (k := 206) rfl) (wd hw (k := 207) rfl) (wd hw (k := 209) rfl) (wd hw (k := 208) rfl) (notFace_of_selects (args := #[]) (mvT P427.hz (wd hw (k := 209) rfl))) (by decide) (W.Str.eqPay (k := 0) P427.hz hwq (wd hw (k := 10) rfl) YE0 e0_431 (US.2.1.ext (P427.extZ EZ all0)) US.1 (by decide) (by decide)) (argsL := [(.ref y387)]) (st0 := []) (lenOf pd_Ljava_lang_Object_R_Z rfl) rfl rfl (Nat.le_of_eq rfl) (by rw [hml]; rfl) (by decide) (by decide) (W.QEq.ok P427.chv) at_123 rfl ?_
  intro v437 T437 h437 L437 q437 P437
  obtain ⟨hq437, rfl, rfl⟩ := q437
  obtain ⟨rfl, -⟩ := hq437.resolve_right (fun q => q.2 rfl)
  show W.Go p.tables e below _ (T437.setTop (mkF m 126 #[.val (.int aa), .val (.int ab), .val (.int at_), .val (.int ca), .val (.int cb), .val (.int ct), .val (.ref y381), .val (.ref y382), .val (.ref y384), .val (.ref y387), .val (.ref y391), .val (.ref y396), .val (.ref y402), .val (.ref y409), .val (.ref y417)] [(.int (1 : Int32))]))
  refine W.g_ifN (pc2 := 129) P437.q at_126 rfl (by decide) ?_
  refine P437.getS (pc1 := 132) (wd hw (k := 214) rfl) Via.refl (S.2.1.ext P437.ext0) at_129 rfl ?_
  intro T438 P438
  refine W.g_aload (pc1 := 134) P438.q at_132 rfl rfl rfl ?_
  refine W.g_aload (pc1 := 136) P438.q at_134 rfl rfl rfl ?_
  refine W.g_aload (pc1 := 138) P438.q at_136 rfl rfl rfl ?_
  refine P438.callVW (pc1 := 141) (S.2.2.2.2.2.2.2.1.ext P438.ext0) (wd hw (k := 57) rfl) (wd hw (k := 58) rfl) (wd hw (k := 60) rfl) (wd hw (k := 59) rfl) (notFace_of_selects (args := #[]) (mvT P438.hz (wd hw (k := 60) rfl))) (by decide) (W.MetW.pay (W := 0) (c_hql l Z a0 hw wS hEL q1 y381 y382 y384 ca cb ct ba bb bt 1 (Or.inr (Or.inl rfl)) h427 (S.2.2.2.2.2.2.2.1.ext P438.ext0) (S.2.2.2.2.2.2.2.2.2.2.2.2.2.1.ext P438.ext0) a_428 b_429 t_430 (P438.extZ EZ all0) zc fm US) P438 hEL all0 (wd hw (k := 61) rfl) (wd hw (k := 55) rfl) (by decide) (by decide)) (argsL := [(.ref y381), (.ref y382), (.ref y384)]) (st0 := []) (lenOf pd_Ljava_lang_StringLjava_lang_StringLjava_lang_String_R_Ljava_lang_String rfl) rfl rfl (Nat.le_of_eq rfl) (by rw [hml]; rfl) (by decide) (by decide) (fun _ _ _ q => by obtain ⟨_, _, q2, _⟩ := q; exact q2.up P438.sz all0) at_138 rfl ?_
  intro v439 T439 h439 L439 q439 P439 R439
  obtain ⟨y439, rfl, f439, E439, Y439⟩ := q439
  show W.Go p.tables e below _ (T439.setTop (mkF m 141 #[.val (.int aa), .val (.int ab), .val (.int at_), .val (.int ca), .val (.int cb), .val (.int ct), .val (.ref y381), .val (.ref y382), .val (.ref y384), .val (.ref y387), .val (.ref y391), .val (.ref y396), .val (.ref y402), .val (.ref y409), .val (.ref y417)] [(.ref y439)]))
  have a_440 := a_428.ext E439
  have b_441 := b_429.ext E439
  have t_442 := t_430.ext E439
  have e0_443 := e0_431.ext E439
  have e1_444 := e1_432.ext E439
  have e2_445 := e2_433.ext E439
  have e3_446 := e3_434.ext E439
  have e4_447 := e4_435.ext E439
  have e5_448 := e5_436.ext E439
  have YE1 : W.Str Z h439 y439 (own_E1 ca cb ct) := Y439
  refine W.g_aload (pc1 := 143) P439.q at_141 rfl rfl rfl ?_
  refine P439.callV (pc1 := 146) YE1.exa (wd hw (k := 206) rfl) (wd hw (k := 207) rfl) (wd hw (k := 209) rfl) (wd hw (k := 208) rfl) (notFace_of_selects (args := #[]) (mvT P439.hz (wd hw (k := 209) rfl))) (by decide) (W.Str.eqPay (k := 0) P439.hz hwq (wd hw (k := 10) rfl) YE1 e1_444 (US.2.1.ext (P439.extZ EZ all0)) US.1 (by decide) (by decide)) (argsL := [(.ref y391)]) (st0 := []) (lenOf pd_Ljava_lang_Object_R_Z rfl) rfl rfl (Nat.le_of_eq rfl) (by rw [hml]; rfl) (by decide) (by decide) (W.QEq.ok P439.chv) at_143 rfl ?_
  intro v449 T449 h449 L449 q449 P449
  obtain ⟨hq449, rfl, rfl⟩ := q449
  obtain ⟨rfl, -⟩ := hq449.resolve_right (fun q => q.2 rfl)
  show W.Go p.tables e below _ (T449.setTop (mkF m 146 #[.val (.int aa), .val (.int ab), .val (.int at_), .val (.int ca), .val (.int cb), .val (.int ct), .val (.ref y381), .val (.ref y382), .val (.ref y384), .val (.ref y387), .val (.ref y391), .val (.ref y396), .val (.ref y402), .val (.ref y409), .val (.ref y417)] [(.int (1 : Int32))]))
  refine W.g_ifN (pc2 := 149) P449.q at_146 rfl (by decide) ?_
  refine P449.getS (pc1 := 152) (wd hw (k := 217) rfl) Via.refl (S.2.2.1.ext P449.ext0) at_149 rfl ?_
  intro T450 P450
  refine W.g_aload (pc1 := 154) P450.q at_152 rfl rfl rfl ?_
  refine W.g_aload (pc1 := 156) P450.q at_154 rfl rfl rfl ?_
  refine W.g_aload (pc1 := 158) P450.q at_156 rfl rfl rfl ?_
  refine P450.callVW (pc1 := 161) (S.2.2.2.2.2.2.2.2.1.ext P450.ext0) (wd hw (k := 57) rfl) (wd hw (k := 58) rfl) (wd hw (k := 60) rfl) (wd hw (k := 59) rfl) (notFace_of_selects (args := #[]) (mvT P450.hz (wd hw (k := 60) rfl))) (by decide) (W.MetW.pay (W := 0) (c_hql l Z a0 hw wS hEL q2 y381 y382 y384 ca cb ct ba bb bt 2 (Or.inr (Or.inr (Or.inl rfl))) h439 (S.2.2.2.2.2.2.2.2.1.ext P450.ext0) (S.2.2.2.2.2.2.2.2.2.2.2.2.2.2.1.ext P450.ext0) a_440 b_441 t_442 (P450.extZ EZ all0) zc fm US) P450 hEL all0 (wd hw (k := 61) rfl) (wd hw (k := 55) rfl) (by decide) (by decide)) (argsL := [(.ref y381), (.ref y382), (.ref y384)]) (st0 := []) (lenOf pd_Ljava_lang_StringLjava_lang_StringLjava_lang_String_R_Ljava_lang_String rfl) rfl rfl (Nat.le_of_eq rfl) (by rw [hml]; rfl) (by decide) (by decide) (fun _ _ _ q => by obtain ⟨_, _, q2, _⟩ := q; exact q2.up P450.sz all0) at_158 rfl ?_
  intro v451 T451 h451 L451 q451 P451 R451
  obtain ⟨y451, rfl, f451, E451, Y451⟩ := q451
  show W.Go p.tables e below _ (T451.setTop (mkF m 161 #[.val (.int aa), .val (.int ab), .val (.int at_), .val (.int ca), .val (.int cb), .val (.int ct), .val (.ref y381), .val (.ref y382), .val (.ref y384), .val (.ref y387), .val (.ref y391), .val (.ref y396), .val (.ref y402), .val (.ref y409), .val (.ref y417)] [(.ref y451)]))
  have a_452 := a_440.ext E451
  have b_453 := b_441.ext E451
  have t_454 := t_442.ext E451
  have e0_455 := e0_443.ext E451
  have e1_456 := e1_444.ext E451
  have e2_457 := e2_445.ext E451
  have e3_458 := e3_446.ext E451
  have e4_459 := e4_447.ext E451
  have e5_460 := e5_448.ext E451
  have YE2 : W.Str Z h451 y451 (own_E2 ca cb ct) := Y451
  refine W.g_aload (pc1 := 163) P451.q at_161 rfl rfl rfl ?_
  refine P451.callV (pc1 := 166) YE2.exa (wd hw (k := 206) rfl) (wd hw (k := 207) rfl) (wd hw (k := 209) rfl) (wd hw (k := 208) rfl) (notFace_of_selects (args := #[]) (mvT P451.hz (wd hw (k := 209) rfl))) (by decide) (W.Str.eqPay (k := 0) P451.hz hwq (wd hw (k := 10) rfl) YE2 e2_457 (US.2.1.ext (P451.extZ EZ all0)) US.1 (by decide) (by decide)) (argsL := [(.ref y396)]) (st0 := []) (lenOf pd_Ljava_lang_Object_R_Z rfl) rfl rfl (Nat.le_of_eq rfl) (by rw [hml]; rfl) (by decide) (by decide) (W.QEq.ok P451.chv) at_163 rfl ?_
  intro v461 T461 h461 L461 q461 P461
  obtain ⟨hq461, rfl, rfl⟩ := q461
  obtain ⟨rfl, -⟩ := hq461.resolve_right (fun q => q.2 rfl)
  show W.Go p.tables e below _ (T461.setTop (mkF m 166 #[.val (.int aa), .val (.int ab), .val (.int at_), .val (.int ca), .val (.int cb), .val (.int ct), .val (.ref y381), .val (.ref y382), .val (.ref y384), .val (.ref y387), .val (.ref y391), .val (.ref y396), .val (.ref y402), .val (.ref y409), .val (.ref y417)] [(.int (1 : Int32))]))
  refine W.g_ifN (pc2 := 169) P461.q at_166 rfl (by decide) ?_
  refine P461.getS (pc1 := 172) (wd hw (k := 221) rfl) Via.refl (S.2.2.2.1.ext P461.ext0) at_169 rfl ?_
  intro T462 P462
  refine W.g_aload (pc1 := 174) P462.q at_172 rfl rfl rfl ?_
  refine W.g_aload (pc1 := 176) P462.q at_174 rfl rfl rfl ?_
  refine W.g_aload (pc1 := 178) P462.q at_176 rfl rfl rfl ?_
  refine P462.callVW (pc1 := 181) (S.2.2.2.2.2.2.2.2.2.1.ext P462.ext0) (wd hw (k := 57) rfl) (wd hw (k := 58) rfl) (wd hw (k := 60) rfl) (wd hw (k := 59) rfl) (notFace_of_selects (args := #[]) (mvT P462.hz (wd hw (k := 60) rfl))) (by decide) (W.MetW.pay (W := 0) (c_hql l Z a0 hw wS hEL q3 y381 y382 y384 ca cb ct ba bb bt 3 (Or.inr (Or.inr (Or.inr (Or.inl rfl)))) h451 (S.2.2.2.2.2.2.2.2.2.1.ext P462.ext0) (S.2.2.2.2.2.2.2.2.2.2.2.2.2.2.2.1.ext P462.ext0) a_452 b_453 t_454 (P462.extZ EZ all0) zc fm US) P462 hEL all0 (wd hw (k := 61) rfl) (wd hw (k := 55) rfl) (by decide) (by decide)) (argsL := [(.ref y381), (.ref y382), (.ref y384)]) (st0 := []) (lenOf pd_Ljava_lang_StringLjava_lang_StringLjava_lang_String_R_Ljava_lang_String rfl) rfl rfl (Nat.le_of_eq rfl) (by rw [hml]; rfl) (by decide) (by decide) (fun _ _ _ q => by obtain ⟨_, _, q2, _⟩ := q; exact q2.up P462.sz all0) at_178 rfl ?_
  intro v463 T463 h463 L463 q463 P463 R463
  obtain ⟨y463, rfl, f463, E463, Y463⟩ := q463
  show W.Go p.tables e below _ (T463.setTop (mkF m 181 #[.val (.int aa), .val (.int ab), .val (.int at_), .val (.int ca), .val (.int cb), .val (.int ct), .val (.ref y381), .val (.ref y382), .val (.ref y384), .val (.ref y387), .val (.ref y391), .val (.ref y396), .val (.ref y402), .val (.ref y409), .val (.ref y417)] [(.ref y463)]))
  have a_464 := a_452.ext E463
  have b_465 := b_453.ext E463
  have t_466 := t_454.ext E463
  have e0_467 := e0_455.ext E463
  have e1_468 := e1_456.ext E463
  have e2_469 := e2_457.ext E463
  have e3_470 := e3_458.ext E463
  have e4_471 := e4_459.ext E463
  have e5_472 := e5_460.ext E463
  have YE3 : W.Str Z h463 y463 (own_E3 ca cb ct) := Y463
  refine W.g_aload (pc1 := 183) P463.q at_181 rfl rfl rfl ?_
  refine P463.callV (pc1 := 186) YE3.exa (wd hw (k := 206) rfl) (wd hw (k := 207) rfl) (wd hw (k := 209) rfl) (wd hw (k := 208) rfl) (notFace_of_selects (args := #[]) (mvT P463.hz (wd hw (k := 209) rfl))) (by decide) (W.Str.eqPay (k := 0) P463.hz hwq (wd hw (k := 10) rfl) YE3 e3_470 (US.2.1.ext (P463.extZ EZ all0)) US.1 (by decide) (by decide)) (argsL := [(.ref y402)]) (st0 := []) (lenOf pd_Ljava_lang_Object_R_Z rfl) rfl rfl (Nat.le_of_eq rfl) (by rw [hml]; rfl) (by decide) (by decide) (W.QEq.ok P463.chv) at_183 rfl ?_
  intro v473 T473 h473 L473 q473 P473
  obtain ⟨hq473, rfl, rfl⟩ := q473
  obtain ⟨rfl, -⟩ := hq473.resolve_right (fun q => q.2 rfl)
  show W.Go p.tables e below _ (T473.setTop (mkF m 186 #[.val (.int aa), .val (.int ab), .val (.int at_), .val (.int ca), .val (.int cb), .val (.int ct), .val (.ref y381), .val (.ref y382), .val (.ref y384), .val (.ref y387), .val (.ref y391), .val (.ref y396), .val (.ref y402), .val (.ref y409), .val (.ref y417)] [(.int (1 : Int32))]))
  refine W.g_ifN (pc2 := 189) P473.q at_186 rfl (by decide) ?_
  refine P473.getS (pc1 := 192) (wd hw (k := 233) rfl) Via.refl (S.2.2.2.2.1.ext P473.ext0) at_189 rfl ?_
  intro T474 P474
  refine W.g_aload (pc1 := 194) P474.q at_192 rfl rfl rfl ?_
  refine W.g_aload (pc1 := 196) P474.q at_194 rfl rfl rfl ?_
  refine W.g_aload (pc1 := 198) P474.q at_196 rfl rfl rfl ?_
  refine P474.callVW (pc1 := 201) (S.2.2.2.2.2.2.2.2.2.2.1.ext P474.ext0) (wd hw (k := 57) rfl) (wd hw (k := 58) rfl) (wd hw (k := 60) rfl) (wd hw (k := 59) rfl) (notFace_of_selects (args := #[]) (mvT P474.hz (wd hw (k := 60) rfl))) (by decide) (W.MetW.pay (W := 0) (c_hql l Z a0 hw wS hEL q4 y381 y382 y384 ca cb ct ba bb bt 4 (Or.inr (Or.inr (Or.inr (Or.inr (Or.inl rfl))))) h463 (S.2.2.2.2.2.2.2.2.2.2.1.ext P474.ext0) (S.2.2.2.2.2.2.2.2.2.2.2.2.2.2.2.2.1.ext P474.ext0) a_464 b_465 t_466 (P474.extZ EZ all0) zc fm US) P474 hEL all0 (wd hw (k := 61) rfl) (wd hw (k := 55) rfl) (by decide) (by decide)) (argsL := [(.ref y381), (.ref y382), (.ref y384)]) (st0 := []) (lenOf pd_Ljava_lang_StringLjava_lang_StringLjava_lang_String_R_Ljava_lang_String rfl) rfl rfl (Nat.le_of_eq rfl) (by rw [hml]; rfl) (by decide) (by decide) (fun _ _ _ q => by obtain ⟨_, _, q2, _⟩ := q; exact q2.up P474.sz all0) at_198 rfl ?_
  intro v475 T475 h475 L475 q475 P475 R475
  obtain ⟨y475, rfl, f475, E475, Y475⟩ := q475
  show W.Go p.tables e below _ (T475.setTop (mkF m 201 #[.val (.int aa), .val (.int ab), .val (.int at_), .val (.int ca), .val (.int cb), .val (.int ct), .val (.ref y381), .val (.ref y382), .val (.ref y384), .val (.ref y387), .val (.ref y391), .val (.ref y396), .val (.ref y402), .val (.ref y409), .val (.ref y417)] [(.ref y475)]))
  have a_476 := a_464.ext E475
  have b_477 := b_465.ext E475
  have t_478 := t_466.ext E475
  have e0_479 := e0_467.ext E475
  have e1_480 := e1_468.ext E475
  have e2_481 := e2_469.ext E475
  have e3_482 := e3_470.ext E475
  have e4_483 := e4_471.ext E475
  have e5_484 := e5_472.ext E475
  have YE4 : W.Str Z h475 y475 (own_E4 ca cb ct) := Y475
  refine W.g_aload (pc1 := 203) P475.q at_201 rfl rfl rfl ?_
  refine P475.callV (pc1 := 206) YE4.exa (wd hw (k := 206) rfl) (wd hw (k := 207) rfl) (wd hw (k := 209) rfl) (wd hw (k := 208) rfl) (notFace_of_selects (args := #[]) (mvT P475.hz (wd hw (k := 209) rfl))) (by decide) (W.Str.eqPay (k := 0) P475.hz hwq (wd hw (k := 10) rfl) YE4 e4_483 (US.2.1.ext (P475.extZ EZ all0)) US.1 (by decide) (by decide)) (argsL := [(.ref y409)]) (st0 := []) (lenOf pd_Ljava_lang_Object_R_Z rfl) rfl rfl (Nat.le_of_eq rfl) (by rw [hml]; rfl) (by decide) (by decide) (W.QEq.ok P475.chv) at_203 rfl ?_
  intro v485 T485 h485 L485 q485 P485
  obtain ⟨hq485, rfl, rfl⟩ := q485
  obtain ⟨rfl, -⟩ := hq485.resolve_right (fun q => q.2 rfl)
  show W.Go p.tables e below _ (T485.setTop (mkF m 206 #[.val (.int aa), .val (.int ab), .val (.int at_), .val (.int ca), .val (.int cb), .val (.int ct), .val (.ref y381), .val (.ref y382), .val (.ref y384), .val (.ref y387), .val (.ref y391), .val (.ref y396), .val (.ref y402), .val (.ref y409), .val (.ref y417)] [(.int (1 : Int32))]))
  refine W.g_ifN (pc2 := 209) P485.q at_206 rfl (by decide) ?_
  refine P485.getS (pc1 := 212) (wd hw (k := 236) rfl) Via.refl (S.2.2.2.2.2.1.ext P485.ext0) at_209 rfl ?_
  intro T486 P486
  refine W.g_aload (pc1 := 214) P486.q at_212 rfl rfl rfl ?_
  refine W.g_aload (pc1 := 216) P486.q at_214 rfl rfl rfl ?_
  refine W.g_aload (pc1 := 218) P486.q at_216 rfl rfl rfl ?_
  refine P486.callVW (pc1 := 221) (S.2.2.2.2.2.2.2.2.2.2.2.1.ext P486.ext0) (wd hw (k := 57) rfl) (wd hw (k := 58) rfl) (wd hw (k := 60) rfl) (wd hw (k := 59) rfl) (notFace_of_selects (args := #[]) (mvT P486.hz (wd hw (k := 60) rfl))) (by decide) (W.MetW.pay (W := 0) (c_hql l Z a0 hw wS hEL q5 y381 y382 y384 ca cb ct ba bb bt 5 (Or.inr (Or.inr (Or.inr (Or.inr (Or.inr rfl))))) h475 (S.2.2.2.2.2.2.2.2.2.2.2.1.ext P486.ext0) (S.2.2.2.2.2.2.2.2.2.2.2.2.2.2.2.2.2.ext P486.ext0) a_476 b_477 t_478 (P486.extZ EZ all0) zc fm US) P486 hEL all0 (wd hw (k := 61) rfl) (wd hw (k := 55) rfl) (by decide) (by decide)) (argsL := [(.ref y381), (.ref y382), (.ref y384)]) (st0 := []) (lenOf pd_Ljava_lang_StringLjava_lang_StringLjava_lang_String_R_Ljava_lang_String rfl) rfl rfl (Nat.le_of_eq rfl) (by rw [hml]; rfl) (by decide) (by decide) (fun _ _ _ q => by obtain ⟨_, _, q2, _⟩ := q; exact q2.up P486.sz all0) at_218 rfl ?_
  intro v487 T487 h487 L487 q487 P487 R487
  obtain ⟨y487, rfl, f487, E487, Y487⟩ := q487
  show W.Go p.tables e below _ (T487.setTop (mkF m 221 #[.val (.int aa), .val (.int ab), .val (.int at_), .val (.int ca), .val (.int cb), .val (.int ct), .val (.ref y381), .val (.ref y382), .val (.ref y384), .val (.ref y387), .val (.ref y391), .val (.ref y396), .val (.ref y402), .val (.ref y409), .val (.ref y417)] [(.ref y487)]))
  have a_488 := a_476.ext E487
  have b_489 := b_477.ext E487
  have t_490 := t_478.ext E487
  have e0_491 := e0_479.ext E487
  have e1_492 := e1_480.ext E487
  have e2_493 := e2_481.ext E487
  have e3_494 := e3_482.ext E487
  have e4_495 := e4_483.ext E487
  have e5_496 := e5_484.ext E487
  have YE5 : W.Str Z h487 y487 (own_E5 ca cb ct) := Y487
  refine W.g_aload (pc1 := 223) P487.q at_221 rfl rfl rfl ?_
  refine P487.callV (pc1 := 226) YE5.exa (wd hw (k := 206) rfl) (wd hw (k := 207) rfl) (wd hw (k := 209) rfl) (wd hw (k := 208) rfl) (notFace_of_selects (args := #[]) (mvT P487.hz (wd hw (k := 209) rfl))) (by decide) (W.Str.eqPay (k := 0) P487.hz hwq (wd hw (k := 10) rfl) YE5 e5_496 (US.2.1.ext (P487.extZ EZ all0)) US.1 (by decide) (by decide)) (argsL := [(.ref y417)]) (st0 := []) (lenOf pd_Ljava_lang_Object_R_Z rfl) rfl rfl (Nat.le_of_eq rfl) (by rw [hml]; rfl) (by decide) (by decide) (W.QEq.ok P487.chv) at_223 rfl ?_
  intro v497 T497 h497 L497 q497 P497
  obtain ⟨hq497, rfl, rfl⟩ := q497
  obtain ⟨rfl, -⟩ := hq497.resolve_right (fun q => q.2 rfl)
  show W.Go p.tables e below _ (T497.setTop (mkF m 226 #[.val (.int aa), .val (.int ab), .val (.int at_), .val (.int ca), .val (.int cb), .val (.int ct), .val (.ref y381), .val (.ref y382), .val (.ref y384), .val (.ref y387), .val (.ref y391), .val (.ref y396), .val (.ref y402), .val (.ref y409), .val (.ref y417)] [(.int (1 : Int32))]))
  refine W.g_ifN (pc2 := 229) P497.q at_226 rfl (by decide) ?_
  refine W.g_iconst (pc1 := 230) (v := (1 : Int32)) P497.q at_229 (by decide) rfl ?_
  refine W.g_goto (pc1 := 234) P497.q at_230 (by decide) rfl ?_
  exact P497.retVW hEL hlk hret (Or.inl rfl) at_234 (by decide) (by decide) ⟨rfl, P497.fr⟩
set_option maxRecDepth 65536 in
set_option maxHeartbeats 40000000 in
theorem comes_1 {Post : Tables → Env → Array Value → State → Outcome → State → Prop} (hpost : ∀ tb e args s v u, (limb_1_1.after args s (.returned v) u = true ∧ limb_1_2.after args s (.returned v) u = true ∧ True) → ReturnedEndW s (.returned v) u (Jvm.fieldLocs frame_1_writes args s ++ Jvm.arrayLocs frame_1_arrays args s ++ Jvm.staticLocs frame_1_statics s) 208 17408 → Post tb e args s (.returned v) u) :
    ArmFor flags0 classFile x code maxLocals ret World_1 tables_1 room_1 Calls_1 rest_1 Pre_1 Post := by
  intro l hfl _ _ p e ha hc hk s m args below hf hA hF happ hP
  obtain ⟨hcalls, hrest, hpre⟩ := hP
  obtain ⟨-, -, -, hnamed, -, -, -, hat⟩ := (Spec.applies_iff hf).mp happ
  obtain ⟨hg, hn⟩ := and_e (Cond.before_iff.mp (show (Jvm.Cond.and given_1 narrow_1).before args s = true from hpre))
  obtain ⟨hcnt, hg0⟩ := and_e hg
  obtain ⟨ga0, hg1⟩ := and_e hg0
  obtain ⟨ga1, hg2⟩ := and_e hg1
  have ga2 := hg2
  obtain ⟨w0, w1, w2, rfl⟩ : ∃ w0 w1 w2 : Value, args = #[w0, w1, w2] := by
    have hs : args.size = 3 := by simpa [Cond.value, given_1] using hcnt
    obtain ⟨L⟩ := args
    match L, hs with
    | [w0, w1, w2], _ => exact ⟨w0, w1, w2, rfl⟩
  have hw := fun d (hd : d ∈ tables_1) => atoms_spec (ws := Jvm.Cond.code x code maxLocals ret :: tables_1) hat d (List.mem_cons_of_mem _ hd)
  obtain ⟨hsets, hown0⟩ := atoms_of _ (rest_1_c_eq ▸ (show rest_1_c.before _ s = true from hrest))
  obtain ⟨i0, ei0⟩ := is_v ga0
  obtain rfl : w0 = (.int i0) := Option.some.inj ei0
  obtain ⟨i1, ei1⟩ := is_v ga1
  obtain rfl : w1 = (.int i1) := Option.some.inj ei1
  obtain ⟨i2, ei2⟩ := is_v ga2
  obtain rfl : w2 = (.int i2) := Option.some.inj ei2
  have n5 := not_v (Cond.before_iff.mp (hsets _ (List.mem_of_getElem? (i := 2) rfl)))
  obtain ⟨zc, ezc⟩ := is_v (Cond.before_iff.mp (hsets _ (List.mem_of_getElem? (i := 1) rfl)))
  have C0 : Sta s s.heap "java/lang/String" "COMPACT_STRINGS" "Z" (.int zc) := Sta.start ezc (Or.inl (hsets _ (List.mem_of_getElem? (i := 0) rfl)))
  have hzc : ¬ (zc = (0 : Int32)) := gotF (Cond.eq_ints ezc (Term.int_eval (0))) n5
  obtain ⟨fm, efm, hfm⟩ := isR_v (Cond.before_iff.mp (hsets _ (List.mem_of_getElem? (i := 8) rfl)))
  have FM := Sta.start efm (Or.inl (hsets _ (List.mem_of_getElem? (i := 7) rfl)))
  have US : UST s zc fm := ⟨hzc, C0, trivial, trivial, trivial, hfm, FM⟩
  obtain ⟨c0, hn0⟩ := and_e hn
  obtain ⟨c1, hn1⟩ := and_e hn0
  obtain ⟨c2, hn2⟩ := and_e hn1
  obtain ⟨c3, hn3⟩ := and_e hn2
  obtain ⟨c4, hn4⟩ := and_e hn3
  obtain ⟨c5, hn5⟩ := and_e hn4
  obtain ⟨c6, hn6⟩ := and_e hn5
  obtain ⟨c7, hn7⟩ := and_e hn6
  obtain ⟨c8, hn8⟩ := and_e hn7
  obtain ⟨c9, hn9⟩ := and_e hn8
  obtain ⟨c10, hn10⟩ := and_e hn9
  have c11 := hn10
  obtain ⟨q0, e0⟩ := exa_v c0
  obtain ⟨q1, e1⟩ := exa_v c2
  obtain ⟨q2, e2⟩ := exa_v c4
  obtain ⟨q3, e3⟩ := exa_v c6
  obtain ⟨q4, e4⟩ := exa_v c8
  obtain ⟨q5, e5⟩ := exa_v c10
  have EN : En s s.heap q0 q1 q2 q3 q4 q5 := ⟨Sta.start e0 (Or.inr ⟨(wd hw (k := 55) rfl), (wd hw (k := 56) rfl)⟩), Sta.start e1 (Or.inr ⟨(wd hw (k := 55) rfl), (wd hw (k := 215) rfl)⟩), Sta.start e2 (Or.inr ⟨(wd hw (k := 55) rfl), (wd hw (k := 218) rfl)⟩), Sta.start e3 (Or.inr ⟨(wd hw (k := 55) rfl), (wd hw (k := 222) rfl)⟩), Sta.start e4 (Or.inr ⟨(wd hw (k := 55) rfl), (wd hw (k := 234) rfl)⟩), Sta.start e5 (Or.inr ⟨(wd hw (k := 55) rfl), (wd hw (k := 237) rfl)⟩), Exa.start e0 c0, Exa.start e1 c2, Exa.start e2 c4, Exa.start e3 c6, Exa.start e4 c8, Exa.start e5 c10, Fld.start ((fld_at e0).symm.trans (own_eqI c1)), Fld.start ((fld_at e1).symm.trans (own_eqI c3)), Fld.start ((fld_at e2).symm.trans (own_eqI c5)), Fld.start ((fld_at e3).symm.trans (own_eqI c7)), Fld.start ((fld_at e4).symm.trans (own_eqI c9)), Fld.start ((fld_at e5).symm.trans (own_eqI c11))⟩
  have wS : ∀ a ∈ Bundle.stringAtoms, a.before _ s = true := fun d hd => hw d (own_atoms d hd)
  have hEL : EW s _ ownEL := (EW.cons (own := site_118.cls) (index := 101) (text := "abs(") (wd hw (k := 80) rfl) (by decide) (EW.cons (own := site_118.cls) (index := 103) (text := " - ") (wd hw (k := 130) rfl) (by decide) (EW.cons (own := site_118.cls) (index := 105) (text := ") <= ") (wd hw (k := 131) rfl) (by decide) (EW.cons (own := site_118.cls) (index := 107) (text := " * abs(") (wd hw (k := 132) rfl) (by decide) (EW.cons (own := site_118.cls) (index := 109) (text := ") or abs(") (wd hw (k := 156) rfl) (by decide) (EW.cons (own := site_118.cls) (index := 111) (text := ")") (wd hw (k := 157) rfl) (by decide) (EW.cons (own := site_118.cls) (index := 122) (text := "not (") (wd hw (k := 216) rfl) (by decide) (EW.cons (own := site_118.cls) (index := 124) (text := " > ") (wd hw (k := 219) rfl) (by decide) (EW.cons (own := site_118.cls) (index := 126) (text := " and not (") (wd hw (k := 220) rfl) (by decide) (EW.cons (own := site_118.cls) (index := 128) (text := " or ") (wd hw (k := 223) rfl) (by decide) (EW.cons (own := site_118.cls) (index := 130) (text := " < ") (wd hw (k := 235) rfl) (by decide) EW.nil)))))))))))
  have hCH : CHv s ownEL s.vm s.heap := CHv.start hEL (fun p hp => hcalls.1 p (own_consts p hp)) (hsets _ (List.mem_of_getElem? (i := 2) rfl)) (wd hw (k := 14) rfl) (wd hw (k := 10) rfl)
  obtain ⟨n, o, h1, h2, h3, _, L, rfl, ⟨rfl, N⟩, -, hq⟩ := rm1 l s _ hw wS hEL i0 i1 i2 q0 q1 q2 q3 q4 q5 s.heap EN (W.Ext.refl _) zc fm US p e ha hc hk s m _ below hf ((Spec.applies_iff_loose hf).mp happ).1 ⟨rfl, State.Warmed39.refl s, rfl, hCH, all0⟩ trivial
  refine ⟨n, _, h1, h2, h3, hpost _ _ _ _ _ _ ⟨Cond.after_iff.mpr rfl, Cond.after_iff.mpr (eq_i res_at (Term.int_eval (1)) rfl), trivial⟩ ⟨hq.1, hq.2.1, hq.2.2.1, (hq.2.2.2.sift fun y hy => Or.inr ((N y hy).elim (fun q => nomatch q) id)).mono (by decide) (by decide)⟩⟩
theorem main_1_1 : Claimed_1_1 := comes_1 fun _ _ _ _ _ _ h hF => ⟨h.1, hF⟩
theorem main_1_2 : Claimed_1_2 := comes_1 fun _ _ _ _ _ _ h hF => ⟨h.2.1, hF⟩
end Jvm.Pilot.@@N@@
namespace Jvm.Pilot.@@N@@
open Jvm Jvm.ClassFile Sem Op Lib Jvm.Free Jvm.Stand Jvm.Pilot.@@N@@.Jvm.D
/-! MADE BY PROGRAM (witnessworld.py) out of the Statement's table words and the real class files: 27 classes; the members and pool entries that the words name. The judged class is class 1, her method 4. -/
namespace start1
open Jvm.ClassFile
def u (s : String) : CpInfo := .utf8 (stringToUtf16 s)
/-- a pool by its gaps: so many unusable entries, then the entry; so many at the end -/
def gap : Nat → List CpInfo → List CpInfo
  | 0, r => r
  | n + 1, r => .unusable :: gap n r
def poolList (es : List (Nat × CpInfo)) (last : Nat) : List CpInfo := es.foldr (fun e r => gap e.1 (e.2 :: r)) (gap last [])
def pool (es : List (Nat × CpInfo)) (last : Nat) : Array CpInfo := ⟨poolList es last⟩
def fileOf (pool : Array CpInfo) (this : Nat) (attrs : Array Attribute := #[]) (ms : Array MethodInfo := #[]) (fl : Nat := 33) (sup : Nat := 0) (ifs : Array Nat := #[]) (fds : Array FieldInfo := #[]) : ClassFile where
  minorVersion := 0
  majorVersion := 65
  constantPool := pool
  accessFlags := fl
  thisClass := this
  superClass := sup
  interfaces := ifs
  fields := fds
  methods := ms
  attributes := attrs
def plain (name : String) (sup : Option ClassId) : Class where
  name := name
  kind := .ordinary
  loader := none
  accessFlags := 33
  super := sup
  interfaces := #[]
  cf := none
  fields := #[]
  methods := #[]
  instanceTypes := #[]
  staticTypes := #[]
  resolved := #[]
  callSites := []
  init := .initialized
  statics := none
  mirror := none

def pool0 : Array CpInfo := pool [(5, u "<init>"), (0, u "()V"), (1, .class_ 10), (1, u "java/lang/Object"), (85, u "clone"), (0, u "()Ljava/lang/Object;")] 26

def k0c0 : Code := { maxStack := 0, maxLocals := 1, code := object_method_1_code, exceptionTable := #[], attributes := #[] }
def k0m0 : Method := { name := "<init>", desc := "()V", sig := { parameters := [], returnType := none }, accessFlags := 1, code := some k0c0 }
def k0m1 : Method := { name := "clone", desc := "()Ljava/lang/Object;", sig := { parameters := [], returnType := some (.object "java/lang/Object") }, accessFlags := 260, code := none }
/-- java/lang/Object -/
def k0 : Class := { plain "java/lang/Object" none with
  accessFlags := 33
  interfaces := #[]
  cf := some (fileOf pool0 8 #[] #[{ accessFlags := 1, nameIndex := 5, descriptorIndex := 6, attributes := #[] }, { accessFlags := 260, nameIndex := 96, descriptorIndex := 97, attributes := #[] }] 33 0 #[] #[])
  fields := #[]
  methods := #[k0m0, k0m1]
  instanceTypes := #[]
  staticTypes := #[]
  resolved := Array.replicate 124 none
  statics := none }

def pool1 : Array CpInfo := pool [(2, .class_ 4), (1, u "java/lang/Object"), (0, u "<init>"), (0, u "()V"), (0, .methodref 8 9), (0, .class_ 10), (0, .nameAndType 11 12), (0, u x.cls), (0, u "core"), (0, u "([CICCC)V"), (0, .class_ 14), (0, u "java/lang/String"), (0, .methodref 13 16), (0, .nameAndType 5 17), (0, u "([C)V"), (0, .methodref 8 19), (0, .nameAndType 20 21), (0, u "head"), (0, u "([CCCC)V"), (0, .methodref 13 23), (0, .nameAndType 24 25), (0, u "valueOf"), (0, u "(C)Ljava/lang/String;"), (0, .methodref 8 27), (0, .nameAndType 28 29), (0, u "expected"), (0, u "(ICCC)Ljava/lang/String;"), (0, .fieldref 31 32), (0, .class_ 33), (0, .nameAndType 34 35), (0, u site_118.cls), (0, u "EQ"), (0, u own_cd), (0, .methodref 31 37), (0, .nameAndType 38 39), (0, u "hql"), (0, u "(Ljava/lang/String;Ljava/lang/String;Ljava/lang/String;)Ljava/lang/String;"), (0, .methodref 13 41), (0, .nameAndType 42 43), (0, u "equals"), (0, u "(Ljava/lang/Object;)Z"), (0, .fieldref 31 45), (0, .nameAndType 46 35), (0, u "NE"), (0, .fieldref 31 48), (0, .nameAndType 49 35), (0, u "GT"), (0, .fieldref 31 51), (0, .nameAndType 52 35), (0, u "GE"), (0, .fieldref 31 54), (0, .nameAndType 55 35), (0, u "LT"), (0, .fieldref 31 57), (0, .nameAndType 58 35), (0, u "LE"), (3, u "law"), (0, u "(III)Z")] 2

def k1m0 : Method := { name := "<init>", desc := "()V", sig := { parameters := [], returnType := none }, accessFlags := 1, code := none }
def k1c1 : Code := { maxStack := 3, maxLocals := 5, code := method_2_code, exceptionTable := #[], attributes := #[] }
def k1m1 : Method := { name := "core", desc := "([CICCC)V", sig := { parameters := [(.array .char), .int, .char, .char, .char], returnType := none }, accessFlags := 10, code := some k1c1 }
def k1c2 : Code := { maxStack := 3, maxLocals := 4, code := method_3_code, exceptionTable := #[], attributes := #[] }
def k1m2 : Method := { name := "head", desc := "([CCCC)V", sig := { parameters := [(.array .char), .char, .char, .char], returnType := none }, accessFlags := 10, code := some k1c2 }
def k1c3 : Code := { maxStack := 5, maxLocals := 6, code := method_4_code, exceptionTable := #[], attributes := #[] }
def k1m3 : Method := { name := "expected", desc := "(ICCC)Ljava/lang/String;", sig := { parameters := [.int, .char, .char, .char], returnType := some (.object "java/lang/String") }, accessFlags := 10, code := some k1c3 }
def k1c4 : Code := { maxStack := 4, maxLocals := 15, code := code, exceptionTable := #[], attributes := #[] }
def k1m4 : Method := { name := "law", desc := "(III)Z", sig := { parameters := [.int, .int, .int], returnType := some .boolean }, accessFlags := 9, code := some k1c4 }
/-- the law -/
def k1 : Class := { plain x.cls (some 0) with
  accessFlags := 49
  interfaces := #[]
  cf := some (fileOf pool1 8 #[] #[{ accessFlags := 1, nameIndex := 5, descriptorIndex := 6, attributes := #[] }, { accessFlags := 10, nameIndex := 11, descriptorIndex := 12, attributes := #[] }, { accessFlags := 10, nameIndex := 20, descriptorIndex := 21, attributes := #[] }, { accessFlags := 10, nameIndex := 28, descriptorIndex := 29, attributes := #[] }, { accessFlags := 9, nameIndex := 62, descriptorIndex := 63, attributes := #[] }] 49 2 #[] #[])
  fields := #[]
  methods := #[k1m0, k1m1, k1m2, k1m3, k1m4]
  instanceTypes := #[]
  staticTypes := #[]
  resolved := Array.replicate 66 none
  statics := none }

def pool2 : Array CpInfo := pool [(1, .class_ 2), (0, u "java/io/Serializable"), (0, .class_ 4), (0, u "java/lang/Object")] 2

/-- java/io/Serializable -/
def k2 : Class := { plain "java/io/Serializable" (some 0) with
  accessFlags := 1537
  interfaces := #[]
  cf := some (fileOf pool2 1 #[] #[] 1537 3 #[] #[])
  fields := #[]
  methods := #[]
  instanceTypes := #[]
  staticTypes := #[]
  resolved := Array.replicate 7 none
  statics := none }

def pool3 : Array CpInfo := pool [(1, .class_ 2), (0, u "java/lang/Comparable"), (0, .class_ 4), (0, u "java/lang/Object")] 7

/-- java/lang/Comparable -/
def k3 : Class := { plain "java/lang/Comparable" (some 0) with
  accessFlags := 1537
  interfaces := #[]
  cf := some (fileOf pool3 1 #[] #[] 1537 3 #[] #[])
  fields := #[]
  methods := #[]
  instanceTypes := #[]
  staticTypes := #[]
  resolved := Array.replicate 12 none
  statics := none }

def pool4 : Array CpInfo := pool [(2, .class_ 4), (1, u "java/lang/CharSequence"), (42, .class_ 48), (0, u "java/lang/CharSequence$1CodePointIterator"), (10, .class_ 60), (0, u "java/lang/CharSequence$1CharIterator"), (5, .class_ 67), (0, u "java/lang/Object")] 63

/-- java/lang/CharSequence -/
def k4 : Class := { plain "java/lang/CharSequence" (some 0) with
  accessFlags := 1537
  interfaces := #[]
  cf := some (fileOf pool4 2 #[.nestMembers #[47, 59]] #[] 1537 66 #[] #[])
  fields := #[]
  methods := #[]
  instanceTypes := #[]
  staticTypes := #[]
  resolved := Array.replicate 131 none
  statics := none }

def pool5 : Array CpInfo := pool [(1, .class_ 2), (0, u "java/lang/constant/Constable"), (0, .class_ 4), (0, u "java/lang/Object")] 6

/-- java/lang/constant/Constable -/
def k5 : Class := { plain "java/lang/constant/Constable" (some 0) with
  accessFlags := 1537
  interfaces := #[]
  cf := some (fileOf pool5 1 #[] #[] 1537 3 #[] #[])
  fields := #[]
  methods := #[]
  instanceTypes := #[]
  staticTypes := #[]
  resolved := Array.replicate 11 none
  statics := none }

def pool6 : Array CpInfo := pool [(1, .class_ 2), (0, u "java/lang/constant/ConstantDesc"), (0, .class_ 4), (0, u "java/lang/Object")] 32

/-- java/lang/constant/ConstantDesc -/
def k6 : Class := { plain "java/lang/constant/ConstantDesc" (some 0) with
  accessFlags := 1537
  interfaces := #[]
  cf := some (fileOf pool6 1 #[] #[] 1537 3 #[] #[])
  fields := #[]
  methods := #[]
  instanceTypes := #[]
  staticTypes := #[]
  resolved := Array.replicate 37 none
  statics := none }

def pool7 : Array CpInfo := pool [(1, .methodref 2 3), (0, .class_ 4), (0, .nameAndType 5 6), (0, u "java/lang/Object"), (0, u "<init>"), (0, u "()V"), (2, .fieldref 10 11), (0, .class_ 12), (0, .nameAndType 13 14), (0, u "java/lang/String"), (0, u "value"), (0, u "[B"), (0, .fieldref 10 16), (0, .nameAndType 17 18), (0, u "coder"), (0, u "B"), (2, u "hash"), (0, u "I"), (2, u "hashIsZero"), (0, u "Z"), (0, .methodref 10 28), (0, .nameAndType 5 29), (0, u "([CIILjava/lang/Void;)V"), (8, .fieldref 10 39), (0, .nameAndType 40 26), (0, u "COMPACT_STRINGS"), (1, .class_ 44), (1, u "java/lang/StringUTF16"), (0, u "compress"), (1, .methodref 42 48), (0, .nameAndType 49 50), (0, u "coderFromArrayLen"), (0, u "([BI)B"), (2, u "toBytes"), (0, .methodref 55 56), (0, .class_ 57), (0, .nameAndType 58 59), (0, u "java/util/Arrays"), (0, u "copyOfRange"), (0, u "([BII)[B"), (47, .class_ 109), (1, u "java/lang/StringLatin1"), (32, u "()Z"), (34, .methodref 42 178), (0, .nameAndType 45 179), (0, u "([CII)[B"), (13, .class_ 195), (1, u "java/lang/System"), (13, .methodref 10 210), (0, .nameAndType 5 211), (0, u "([BB)V"), (0, .methodref 193 213), (0, .nameAndType 214 215), (0, u "arraycopy"), (0, u "(Ljava/lang/Object;ILjava/lang/Object;II)V"), (118, u "()I"), (0, .methodref 10 336), (0, .nameAndType 17 337), (0, u "()B"), (2, u "()[B"), (28, u "(C)Z"), (119, .methodref 10 490), (0, .nameAndType 5 491), (0, u "(Ljava/lang/AbstractStringBuilder;Ljava/lang/Void;)V"), (1, .nameAndType 494 142), (0, u "isLatin1"), (11, .nameAndType 507 334), (0, u "length"), (24, u "getBytes"), (8, .methodref 107 542), (0, .nameAndType 543 544), (0, u "equals"), (0, u "([B[B)Z"), (4, .methodref 550 506), (0, .class_ 551), (0, u "java/lang/AbstractStringBuilder"), (0, .methodref 550 553), (0, .nameAndType 554 340), (0, u "getValue"), (18, u "(Ljava/lang/Object;)Z"), (1, .class_ 576), (0, u "java/lang/CharSequence"), (22, u "CASE_INSENSITIVE_ORDER"), (0, u "Ljava/util/Comparator;"), (181, u "valueOf"), (0, u "(C)Ljava/lang/String;"), (37, u "([BIB)V"), (188, u "([C)V"), (4, .methodref 107 1016), (0, .nameAndType 1017 369), (0, u "canEncode"), (0, .methodref 107 1019), (0, .nameAndType 53 1020), (0, u "(C)[B"), (26, .methodref 550 493), (53, u "serialPersistentFields"), (0, u "[Ljava/io/ObjectStreamField;"), (0, .class_ 1104), (0, u "java/lang/String$CaseInsensitiveComparator"), (1, .class_ 1107), (0, u "java/io/Serializable"), (0, .class_ 1109), (0, u "java/lang/Comparable"), (0, .class_ 1111), (0, u "java/lang/constant/Constable"), (0, .class_ 1113), (0, u "java/lang/constant/ConstantDesc"), (2, u "serialVersionUID"), (0, u "J"), (3, u "REPL"), (0, u "C"), (2, u "LATIN1"), (1, u "UTF16"), (105, u "(Ljava/lang/StringBuilder;)V")] 217

def k7m0 : Method := { name := "<init>", desc := "()V", sig := { parameters := [], returnType := none }, accessFlags := 1, code := none }
def k7c1 : Code := { maxStack := 5, maxLocals := 2, code := jdk_42_method_3_code, exceptionTable := #[], attributes := #[] }
def k7m1 : Method := { name := "<init>", desc := "([C)V", sig := { parameters := [(.array .char)], returnType := none }, accessFlags := 1, code := some k7c1 }
def k7c2 : Code := { maxStack := 3, maxLocals := 2, code := jdk_42_method_53_code, exceptionTable := #[], attributes := #[] }
def k7m2 : Method := { name := "<init>", desc := "(Ljava/lang/StringBuilder;)V", sig := { parameters := [(.object "java/lang/StringBuilder")], returnType := none }, accessFlags := 1, code := some k7c2 }
def k7c3 : Code := { maxStack := 2, maxLocals := 1, code := jdk_42_method_54_code, exceptionTable := #[], attributes := #[] }
def k7m3 : Method := { name := "length", desc := "()I", sig := { parameters := [], returnType := some .int }, accessFlags := 1, code := some k7c3 }
def k7c4 : Code := { maxStack := 2, maxLocals := 3, code := jdk_42_method_66_code, exceptionTable := #[], attributes := #[] }
def k7m4 : Method := { name := "equals", desc := "(Ljava/lang/Object;)Z", sig := { parameters := [(.object "java/lang/Object")], returnType := some .boolean }, accessFlags := 1, code := some k7c4 }
def k7c5 : Code := { maxStack := 4, maxLocals := 1, code := jdk_42_method_139_code, exceptionTable := #[], attributes := #[] }
def k7m5 : Method := { name := "valueOf", desc := "(C)Ljava/lang/String;", sig := { parameters := [.char], returnType := some (.object "java/lang/String") }, accessFlags := 9, code := some k7c5 }
def k7c6 : Code := { maxStack := 5, maxLocals := 4, code := jdk_42_method_147_code, exceptionTable := #[], attributes := #[] }
def k7m6 : Method := { name := "getBytes", desc := "([BIB)V", sig := { parameters := [(.array .byte), .int, .byte], returnType := none }, accessFlags := 0, code := some k7c6 }
def k7c7 : Code := { maxStack := 4, maxLocals := 6, code := jdk_42_method_149_code, exceptionTable := #[], attributes := #[] }
def k7m7 : Method := { name := "<init>", desc := "([CIILjava/lang/Void;)V", sig := { parameters := [(.array .char), .int, .int, (.object "java/lang/Void")], returnType := none }, accessFlags := 2, code := some k7c7 }
def k7c8 : Code := { maxStack := 5, maxLocals := 5, code := jdk_42_method_150_code, exceptionTable := #[], attributes := #[] }
def k7m8 : Method := { name := "<init>", desc := "(Ljava/lang/AbstractStringBuilder;Ljava/lang/Void;)V", sig := { parameters := [(.object "java/lang/AbstractStringBuilder"), (.object "java/lang/Void")], returnType := none }, accessFlags := 0, code := some k7c8 }
def k7c9 : Code := { maxStack := 2, maxLocals := 3, code := jdk_42_method_151_code, exceptionTable := #[], attributes := #[] }
def k7m9 : Method := { name := "<init>", desc := "([BB)V", sig := { parameters := [(.array .byte), .byte], returnType := none }, accessFlags := 0, code := some k7c9 }
def k7c10 : Code := { maxStack := 1, maxLocals := 1, code := jdk_42_method_152_code, exceptionTable := #[], attributes := #[] }
def k7m10 : Method := { name := "coder", desc := "()B", sig := { parameters := [], returnType := some .byte }, accessFlags := 0, code := some k7c10 }
/-- java/lang/String -/
def k7 : Class := { plain "java/lang/String" (some 0) with
  accessFlags := 49
  interfaces := #[2, 3, 4, 5, 6]
  cf := some (fileOf pool7 10 #[.nestMembers #[1103]] #[{ accessFlags := 1, nameIndex := 5, descriptorIndex := 6, attributes := #[] }, { accessFlags := 1, nameIndex := 5, descriptorIndex := 1010, attributes := #[] }, { accessFlags := 1, nameIndex := 5, descriptorIndex := 1233, attributes := #[] }, { accessFlags := 1, nameIndex := 507, descriptorIndex := 334, attributes := #[] }, { accessFlags := 1, nameIndex := 543, descriptorIndex := 573, attributes := #[] }, { accessFlags := 9, nameIndex := 782, descriptorIndex := 783, attributes := #[] }, { accessFlags := 0, nameIndex := 532, descriptorIndex := 821, attributes := #[] }, { accessFlags := 2, nameIndex := 5, descriptorIndex := 29, attributes := #[] }, { accessFlags := 0, nameIndex := 5, descriptorIndex := 491, attributes := #[] }, { accessFlags := 0, nameIndex := 5, descriptorIndex := 211, attributes := #[] }, { accessFlags := 0, nameIndex := 17, descriptorIndex := 337, attributes := #[] }] 49 2 #[1106, 1108, 575, 1110, 1112] #[{ accessFlags := 18, nameIndex := 13, descriptorIndex := 14, attributes := #[] }, { accessFlags := 18, nameIndex := 17, descriptorIndex := 18, attributes := #[] }, { accessFlags := 2, nameIndex := 21, descriptorIndex := 22, attributes := #[] }, { accessFlags := 2, nameIndex := 25, descriptorIndex := 26, attributes := #[] }, { accessFlags := 26, nameIndex := 1116, descriptorIndex := 1117, attributes := #[] }, { accessFlags := 24, nameIndex := 40, descriptorIndex := 26, attributes := #[] }, { accessFlags := 26, nameIndex := 1101, descriptorIndex := 1102, attributes := #[] }, { accessFlags := 26, nameIndex := 1121, descriptorIndex := 1122, attributes := #[] }, { accessFlags := 25, nameIndex := 599, descriptorIndex := 600, attributes := #[] }, { accessFlags := 24, nameIndex := 1125, descriptorIndex := 18, attributes := #[] }, { accessFlags := 24, nameIndex := 1127, descriptorIndex := 18, attributes := #[] }])
  fields := #[{ name := "value", type := (.array .byte), accessFlags := 18, slot := 0, constantValue := 0 }, { name := "coder", type := .byte, accessFlags := 18, slot := 1, constantValue := 0 }, { name := "hash", type := .int, accessFlags := 2, slot := 2, constantValue := 0 }, { name := "hashIsZero", type := .boolean, accessFlags := 2, slot := 3, constantValue := 0 }, { name := "serialVersionUID", type := .long, accessFlags := 26, slot := 0, constantValue := 0 }, { name := "COMPACT_STRINGS", type := .boolean, accessFlags := 24, slot := 1, constantValue := 0 }, { name := "serialPersistentFields", type := (.array (.object "java/io/ObjectStreamField")), accessFlags := 26, slot := 2, constantValue := 0 }, { name := "REPL", type := .char, accessFlags := 26, slot := 3, constantValue := 0 }, { name := "CASE_INSENSITIVE_ORDER", type := (.object "java/util/Comparator"), accessFlags := 25, slot := 4, constantValue := 0 }, { name := "LATIN1", type := .byte, accessFlags := 24, slot := 5, constantValue := 0 }, { name := "UTF16", type := .byte, accessFlags := 24, slot := 6, constantValue := 0 }]
  methods := #[k7m0, k7m1, k7m2, k7m3, k7m4, k7m5, k7m6, k7m7, k7m8, k7m9, k7m10]
  instanceTypes := #[(.array .byte), .byte, .int, .boolean]
  staticTypes := #[.long, .boolean, (.array (.object "java/io/ObjectStreamField")), .char, (.object "java/util/Comparator"), .byte, .byte]
  resolved := Array.replicate 1451 none
  statics := some 0 }

def pool8 : Array CpInfo := pool [(4, .class_ 6), (1, u "java/lang/Object"), (0, u "<init>"), (0, u "()V"), (5, .class_ 16), (1, u "java/lang/StringLatin1"), (73, u "canEncode"), (14, u "(C)Z"), (15, u "$assertionsDisabled"), (0, u "Z"), (98, .class_ 223), (1, u "java/lang/StringLatin1$LinesSpliterator"), (57, u "equals"), (0, u "([B[B)Z"), (97, u "toBytes"), (1, u "(C)[B"), (7, .class_ 391), (0, u "java/lang/StringLatin1$CharsSpliterator")] 3

def k8m0 : Method := { name := "<init>", desc := "()V", sig := { parameters := [], returnType := none }, accessFlags := 0, code := none }
def k8c1 : Code := { maxStack := 2, maxLocals := 1, code := jdk_43_method_3_code, exceptionTable := #[], attributes := #[] }
def k8m1 : Method := { name := "canEncode", desc := "(C)Z", sig := { parameters := [.char], returnType := some .boolean }, accessFlags := 9, code := some k8c1 }
def k8c2 : Code := { maxStack := 3, maxLocals := 3, code := jdk_43_method_13_code, exceptionTable := #[], attributes := #[] }
def k8m2 : Method := { name := "equals", desc := "([B[B)Z", sig := { parameters := [(.array .byte), (.array .byte)], returnType := some .boolean }, accessFlags := 9, code := some k8c2 }
def k8c3 : Code := { maxStack := 4, maxLocals := 1, code := jdk_43_method_46_code, exceptionTable := #[], attributes := #[] }
def k8m3 : Method := { name := "toBytes", desc := "(C)[B", sig := { parameters := [.char], returnType := some (.array .byte) }, accessFlags := 9, code := some k8c3 }
/-- java/lang/StringLatin1 -/
def k8 : Class := { plain "java/lang/StringLatin1" (some 0) with
  accessFlags := 48
  interfaces := #[]
  cf := some (fileOf pool8 14 #[.nestMembers #[390, 221]] #[{ accessFlags := 0, nameIndex := 7, descriptorIndex := 8, attributes := #[] }, { accessFlags := 9, nameIndex := 90, descriptorIndex := 105, attributes := #[] }, { accessFlags := 9, nameIndex := 281, descriptorIndex := 282, attributes := #[] }, { accessFlags := 9, nameIndex := 380, descriptorIndex := 382, attributes := #[] }] 48 4 #[] #[{ accessFlags := 4120, nameIndex := 121, descriptorIndex := 122, attributes := #[] }])
  fields := #[{ name := "$assertionsDisabled", type := .boolean, accessFlags := 4120, slot := 0, constantValue := 0 }]
  methods := #[k8m0, k8m1, k8m2, k8m3]
  instanceTypes := #[]
  staticTypes := #[.boolean]
  resolved := Array.replicate 395 none
  statics := none }

def pool9 : Array CpInfo := pool [(6, .class_ 8), (1, u "java/lang/Object"), (0, u "<init>"), (0, u "()V"), (1, .class_ 14), (1, u "java/lang/StringUTF16"), (31, u "$assertionsDisabled"), (0, u "Z"), (13, u "HI_BYTE_SHIFT"), (0, u "I"), (2, u "LO_BYTE_SHIFT"), (49, .methodref 12 116), (0, .nameAndType 117 118), (0, u "compress"), (0, u "([CI[BII)I"), (3, u "([CII)[B"), (138, u "coderFromArrayLen"), (0, u "([BI)B"), (106, .class_ 371), (1, u "java/lang/StringUTF16$LinesSpliterator"), (58, u "MAX_LENGTH"), (196, .class_ 628), (0, u "java/lang/StringUTF16$CodePointsSpliterator"), (0, .class_ 630), (0, u "java/lang/StringUTF16$CharsSpliterator")] 4

def k9m0 : Method := { name := "<init>", desc := "()V", sig := { parameters := [], returnType := none }, accessFlags := 0, code := none }
def k9c1 : Code := { maxStack := 2, maxLocals := 2, code := jdk_52_method_15_code, exceptionTable := #[], attributes := #[] }
def k9m1 : Method := { name := "coderFromArrayLen", desc := "([BI)B", sig := { parameters := [(.array .byte), .int], returnType := some .byte }, accessFlags := 8, code := some k9c1 }
def k9c2 : Code := { maxStack := 5, maxLocals := 6, code := jdk_52_method_16_code, exceptionTable := #[], attributes := #[] }
def k9m2 : Method := { name := "compress", desc := "([CII)[B", sig := { parameters := [(.array .char), .int, .int], returnType := some (.array .byte) }, accessFlags := 9, code := some k9c2 }
def k9c3 : Code := { maxStack := 3, maxLocals := 7, code := jdk_52_method_21_code, exceptionTable := #[], attributes := #[] }
def k9m3 : Method := { name := "compress", desc := "([CI[BII)I", sig := { parameters := [(.array .char), .int, (.array .byte), .int, .int], returnType := some .int }, accessFlags := 9, code := some k9c3 }
/-- java/lang/StringUTF16 -/
def k9 : Class := { plain "java/lang/StringUTF16" (some 0) with
  accessFlags := 48
  interfaces := #[]
  cf := some (fileOf pool9 12 #[.nestMembers #[627, 629, 369]] #[{ accessFlags := 0, nameIndex := 9, descriptorIndex := 10, attributes := #[] }, { accessFlags := 8, nameIndex := 261, descriptorIndex := 262, attributes := #[] }, { accessFlags := 9, nameIndex := 117, descriptorIndex := 122, attributes := #[] }, { accessFlags := 9, nameIndex := 117, descriptorIndex := 118, attributes := #[] }] 48 6 #[] #[{ accessFlags := 26, nameIndex := 61, descriptorIndex := 62, attributes := #[] }, { accessFlags := 26, nameIndex := 65, descriptorIndex := 62, attributes := #[] }, { accessFlags := 24, nameIndex := 430, descriptorIndex := 62, attributes := #[] }, { accessFlags := 4120, nameIndex := 46, descriptorIndex := 47, attributes := #[] }])
  fields := #[{ name := "HI_BYTE_SHIFT", type := .int, accessFlags := 26, slot := 0, constantValue := 0 }, { name := "LO_BYTE_SHIFT", type := .int, accessFlags := 26, slot := 1, constantValue := 0 }, { name := "MAX_LENGTH", type := .int, accessFlags := 24, slot := 2, constantValue := 0 }, { name := "$assertionsDisabled", type := .boolean, accessFlags := 4120, slot := 3, constantValue := 0 }]
  methods := #[k9m0, k9m1, k9m2, k9m3]
  instanceTypes := #[]
  staticTypes := #[.int, .int, .int, .boolean]
  resolved := Array.replicate 635 none
  statics := none }

def pool10 : Array CpInfo := pool [(2, .class_ 4), (1, u "java/lang/Enum"), (0, u "name"), (0, u "Ljava/lang/String;"), (0, .fieldref 2 8), (0, .nameAndType 9 10), (0, u "ordinal"), (0, u "I"), (1, .class_ 14), (1, u "java/lang/Object"), (4, u "hash"), (86, .class_ 108), (1, u "java/lang/Enum$EnumDesc"), (2, .class_ 112), (0, u "java/lang/constant/Constable"), (0, .class_ 114), (0, u "java/lang/Comparable"), (0, .class_ 116), (0, u "java/io/Serializable"), (9, u "()I")] 77

def k10c0 : Code := { maxStack := 1, maxLocals := 1, code := jdk_37_method_2_code, exceptionTable := #[], attributes := #[] }
def k10m0 : Method := { name := "ordinal", desc := "()I", sig := { parameters := [], returnType := some .int }, accessFlags := 17, code := some k10c0 }
/-- java/lang/Enum -/
def k10 : Class := { plain "java/lang/Enum" (some 0) with
  accessFlags := 1057
  interfaces := #[5, 3, 2]
  cf := some (fileOf pool10 2 #[.nestMembers #[106]] #[{ accessFlags := 17, nameIndex := 9, descriptorIndex := 126, attributes := #[] }] 1057 12 #[111, 113, 115] #[{ accessFlags := 18, nameIndex := 5, descriptorIndex := 6, attributes := #[] }, { accessFlags := 18, nameIndex := 9, descriptorIndex := 10, attributes := #[] }, { accessFlags := 2, nameIndex := 19, descriptorIndex := 10, attributes := #[] }])
  fields := #[{ name := "name", type := (.object "java/lang/String"), accessFlags := 18, slot := 0, constantValue := 0 }, { name := "ordinal", type := .int, accessFlags := 18, slot := 1, constantValue := 0 }, { name := "hash", type := .int, accessFlags := 2, slot := 2, constantValue := 0 }]
  methods := #[k10m0]
  instanceTypes := #[(.object "java/lang/String"), .int, .int]
  staticTypes := #[]
  resolved := Array.replicate 204 none
  statics := none }

def pool11 : Array CpInfo := pool [(1, .class_ 2), (0, u site_118.cls), (2, u "EQ"), (0, u own_cd), (2, u "NE"), (2, u "GT"), (2, u "GE"), (2, u "LT"), (2, u "LE"), (2, u "$VALUES"), (0, u "Lx;"), (6, .class_ 34), (1, u "java/lang/Enum"), (4, u "<init>"), (3, u "apiName"), (0, u "Ljava/lang/String;"), (3, .nameAndType 39 49), (0, u "()V"), (17, .class_ 68), (0, u "java/lang/StringBuilder"), (0, .methodref 67 48), (2, .methodref 67 73), (0, .nameAndType 74 75), (0, u "append"), (0, u "(Ljava/lang/String;)Ljava/lang/StringBuilder;"), (6, .methodref 67 83), (0, .nameAndType 84 85), (0, u "toString"), (0, u "()Ljava/lang/String;"), (15, .string 102), (0, u "abs("), (0, .string 104), (0, u " - "), (0, .string 106), (0, u ") <= "), (0, .string 108), (0, u " * abs("), (0, .string 110), (0, u ") or abs("), (0, .string 112), (0, u ")"), (0, .methodref 1 114), (0, .nameAndType 115 116), (0, u "ordinal"), (0, u "()I"), (5, .string 123), (0, u "not ("), (0, .string 125), (0, u " > "), (0, .string 127), (0, u " and not ("), (0, .string 129), (0, u " or "), (0, .string 131), (0, u " < "), (24, u "RELATIVE_TOLERANCE"), (0, u "D"), (10, u "hql"), (0, u "(Ljava/lang/String;Ljava/lang/String;Ljava/lang/String;)Ljava/lang/String;")] 4

def k11c0 : Code := { maxStack := 4, maxLocals := 5, code := prog_1_method_6_code, exceptionTable := #[], attributes := #[] }
def k11m0 : Method := { name := "hql", desc := "(Ljava/lang/String;Ljava/lang/String;Ljava/lang/String;)Ljava/lang/String;", sig := { parameters := [(.object "java/lang/String"), (.object "java/lang/String"), (.object "java/lang/String")], returnType := some (.object "java/lang/String") }, accessFlags := 0, code := some k11c0 }
/-- its callee -/
def k11 : Class := { plain site_118.cls (some 10) with
  accessFlags := 16432
  interfaces := #[]
  cf := some (fileOf pool11 1 #[] #[{ accessFlags := 0, nameIndex := 168, descriptorIndex := 169, attributes := #[] }] 16432 32 #[] #[{ accessFlags := 16409, nameIndex := 5, descriptorIndex := 6, attributes := #[] }, { accessFlags := 16409, nameIndex := 9, descriptorIndex := 6, attributes := #[] }, { accessFlags := 16409, nameIndex := 12, descriptorIndex := 6, attributes := #[] }, { accessFlags := 16409, nameIndex := 15, descriptorIndex := 6, attributes := #[] }, { accessFlags := 16409, nameIndex := 18, descriptorIndex := 6, attributes := #[] }, { accessFlags := 16409, nameIndex := 21, descriptorIndex := 6, attributes := #[] }, { accessFlags := 24, nameIndex := 156, descriptorIndex := 157, attributes := #[] }, { accessFlags := 18, nameIndex := 43, descriptorIndex := 44, attributes := #[] }, { accessFlags := 4122, nameIndex := 24, descriptorIndex := 25, attributes := #[] }])
  fields := #[{ name := "EQ", type := (.object site_118.cls), accessFlags := 16409, slot := 0, constantValue := 0 }, { name := "NE", type := (.object site_118.cls), accessFlags := 16409, slot := 1, constantValue := 0 }, { name := "GT", type := (.object site_118.cls), accessFlags := 16409, slot := 2, constantValue := 0 }, { name := "GE", type := (.object site_118.cls), accessFlags := 16409, slot := 3, constantValue := 0 }, { name := "LT", type := (.object site_118.cls), accessFlags := 16409, slot := 4, constantValue := 0 }, { name := "LE", type := (.object site_118.cls), accessFlags := 16409, slot := 5, constantValue := 0 }, { name := "RELATIVE_TOLERANCE", type := .double, accessFlags := 24, slot := 6, constantValue := 0 }, { name := "apiName", type := (.object "java/lang/String"), accessFlags := 18, slot := 3, constantValue := 0 }, { name := "$VALUES", type := (.array (.object site_118.cls)), accessFlags := 4122, slot := 7, constantValue := 0 }]
  methods := #[k11m0]
  instanceTypes := #[(.object "java/lang/String"), .int, .int, (.object "java/lang/String")]
  staticTypes := #[(.object site_118.cls), (.object site_118.cls), (.object site_118.cls), (.object site_118.cls), (.object site_118.cls), (.object site_118.cls), .double, (.array (.object site_118.cls))]
  resolved := Array.replicate 174 none
  statics := some 1 }

def pool12 : Array CpInfo := pool [(1, .class_ 2), (0, u "java/lang/Appendable"), (0, .class_ 4), (0, u "java/lang/Object")] 9

/-- java/lang/Appendable -/
def k12 : Class := { plain "java/lang/Appendable" (some 0) with
  accessFlags := 1537
  interfaces := #[]
  cf := some (fileOf pool12 1 #[] #[] 1537 3 #[] #[])
  fields := #[]
  methods := #[]
  instanceTypes := #[]
  staticTypes := #[]
  resolved := Array.replicate 14 none
  statics := none }

def pool13 : Array CpInfo := pool [(1, .class_ 2), (0, u "java/lang/String"), (0, .methodref 4 5), (0, .class_ 6), (0, .nameAndType 7 8), (0, u "java/lang/Object"), (0, u "<init>"), (0, u "()V"), (1, .class_ 12), (1, u "java/lang/AbstractStringBuilder"), (0, u "EMPTYVALUE"), (0, u "[B"), (0, .fieldref 10 16), (0, .nameAndType 17 14), (0, u "value"), (0, .fieldref 1 19), (0, .nameAndType 20 21), (0, u "COMPACT_STRINGS"), (0, u "Z"), (0, .fieldref 10 23), (0, .nameAndType 24 25), (0, u "coder"), (0, u "B"), (6, .methodref 1 33), (0, .nameAndType 34 35), (0, u "length"), (0, u "()I"), (3, .integer 2147483647), (0, .methodref 1 41), (0, .nameAndType 24 42), (0, u "()B"), (2, u "append"), (0, u "(Ljava/lang/String;)Ljava/lang/AbstractStringBuilder;"), (1, .class_ 49), (0, u "java/lang/CharSequence"), (19, u "(Ljava/lang/String;)V"), (5, u "maybeLatin1"), (3, .fieldref 10 80), (0, .nameAndType 81 82), (0, u "count"), (0, u "I"), (2, u "isLatin1"), (0, u "()Z"), (13, .methodref 10 101), (0, .nameAndType 102 103), (0, u "ensureCapacityInternal"), (0, u "(I)V"), (0, .methodref 10 105), (0, .nameAndType 106 107), (0, u "newCapacity"), (0, u "(I)I"), (0, .methodref 109 110), (0, .class_ 111), (0, .nameAndType 112 113), (0, u "java/util/Arrays"), (0, u "copyOf"), (0, u "([BI)[B"), (0, .methodref 115 116), (0, .class_ 117), (0, .nameAndType 118 119), (0, u "jdk/internal/util/ArraysSupport"), (0, u "newLength"), (0, u "(III)I"), (88, .methodref 10 209), (0, .nameAndType 210 211), (0, u "putStringAt"), (0, u "(ILjava/lang/String;)V"), (5, u "inflateIfNeededFor"), (2, .nameAndType 221 222), (0, u "getBytes"), (0, u "([BIB)V"), (174, .methodref 10 398), (0, .nameAndType 217 69), (0, .methodref 1 220), (3, u "()[B"), (40, .class_ 445), (0, u "java/lang/Appendable"), (106, u "getValue")] 56

def k13m0 : Method := { name := "<init>", desc := "()V", sig := { parameters := [], returnType := none }, accessFlags := 0, code := none }
def k13c1 : Code := { maxStack := 2, maxLocals := 2, code := jdk_68_method_2_code, exceptionTable := #[], attributes := #[] }
def k13m1 : Method := { name := "<init>", desc := "(I)V", sig := { parameters := [.int], returnType := none }, accessFlags := 0, code := some k13c1 }
def k13c2 : Code := { maxStack := 1, maxLocals := 1, code := jdk_68_method_6_code, exceptionTable := #[], attributes := #[] }
def k13m2 : Method := { name := "length", desc := "()I", sig := { parameters := [], returnType := some .int }, accessFlags := 1, code := some k13c2 }
def k13c3 : Code := { maxStack := 4, maxLocals := 3, code := jdk_68_method_9_code, exceptionTable := #[], attributes := #[] }
def k13m3 : Method := { name := "ensureCapacityInternal", desc := "(I)V", sig := { parameters := [.int], returnType := none }, accessFlags := 2, code := some k13c3 }
def k13c4 : Code := { maxStack := 5, maxLocals := 6, code := jdk_68_method_10_code, exceptionTable := #[], attributes := #[] }
def k13m4 : Method := { name := "newCapacity", desc := "(I)I", sig := { parameters := [.int], returnType := some .int }, accessFlags := 2, code := some k13c4 }
def k13c5 : Code := { maxStack := 3, maxLocals := 3, code := jdk_68_method_22_code, exceptionTable := #[], attributes := #[] }
def k13m5 : Method := { name := "append", desc := "(Ljava/lang/String;)Ljava/lang/AbstractStringBuilder;", sig := { parameters := [(.object "java/lang/String")], returnType := some (.object "java/lang/AbstractStringBuilder") }, accessFlags := 1, code := some k13c5 }
def k13c6 : Code := { maxStack := 1, maxLocals := 1, code := jdk_68_method_64_code, exceptionTable := #[], attributes := #[] }
def k13m6 : Method := { name := "getValue", desc := "()[B", sig := { parameters := [], returnType := some (.array .byte) }, accessFlags := 16, code := some k13c6 }
def k13c7 : Code := { maxStack := 1, maxLocals := 1, code := jdk_68_method_68_code, exceptionTable := #[], attributes := #[] }
def k13m7 : Method := { name := "isLatin1", desc := "()Z", sig := { parameters := [], returnType := some .boolean }, accessFlags := 16, code := some k13c7 }
def k13c8 : Code := { maxStack := 2, maxLocals := 2, code := jdk_68_method_71_code, exceptionTable := #[], attributes := #[] }
def k13m8 : Method := { name := "inflateIfNeededFor", desc := "(Ljava/lang/String;)V", sig := { parameters := [(.object "java/lang/String")], returnType := none }, accessFlags := 2, code := some k13c8 }
def k13c9 : Code := { maxStack := 4, maxLocals := 3, code := jdk_68_method_73_code, exceptionTable := #[], attributes := #[] }
def k13m9 : Method := { name := "putStringAt", desc := "(ILjava/lang/String;)V", sig := { parameters := [.int, (.object "java/lang/String")], returnType := none }, accessFlags := 2, code := some k13c9 }
/-- java/lang/AbstractStringBuilder -/
def k13 : Class := { plain "java/lang/AbstractStringBuilder" (some 0) with
  accessFlags := 1056
  interfaces := #[12, 4]
  cf := some (fileOf pool13 10 #[] #[{ accessFlags := 0, nameIndex := 7, descriptorIndex := 8, attributes := #[] }, { accessFlags := 0, nameIndex := 7, descriptorIndex := 103, attributes := #[] }, { accessFlags := 1, nameIndex := 34, descriptorIndex := 35, attributes := #[] }, { accessFlags := 2, nameIndex := 102, descriptorIndex := 103, attributes := #[] }, { accessFlags := 2, nameIndex := 106, descriptorIndex := 107, attributes := #[] }, { accessFlags := 1, nameIndex := 45, descriptorIndex := 46, attributes := #[] }, { accessFlags := 16, nameIndex := 552, descriptorIndex := 403, attributes := #[] }, { accessFlags := 16, nameIndex := 85, descriptorIndex := 86, attributes := #[] }, { accessFlags := 2, nameIndex := 217, descriptorIndex := 69, attributes := #[] }, { accessFlags := 2, nameIndex := 210, descriptorIndex := 211, attributes := #[] }] 1056 4 #[444, 48] #[{ accessFlags := 0, nameIndex := 17, descriptorIndex := 14, attributes := #[] }, { accessFlags := 0, nameIndex := 24, descriptorIndex := 25, attributes := #[] }, { accessFlags := 0, nameIndex := 75, descriptorIndex := 21, attributes := #[] }, { accessFlags := 0, nameIndex := 81, descriptorIndex := 82, attributes := #[] }, { accessFlags := 26, nameIndex := 13, descriptorIndex := 14, attributes := #[] }])
  fields := #[{ name := "value", type := (.array .byte), accessFlags := 0, slot := 0, constantValue := 0 }, { name := "coder", type := .byte, accessFlags := 0, slot := 1, constantValue := 0 }, { name := "maybeLatin1", type := .boolean, accessFlags := 0, slot := 2, constantValue := 0 }, { name := "count", type := .int, accessFlags := 0, slot := 3, constantValue := 0 }, { name := "EMPTYVALUE", type := (.array .byte), accessFlags := 26, slot := 0, constantValue := 0 }]
  methods := #[k13m0, k13m1, k13m2, k13m3, k13m4, k13m5, k13m6, k13m7, k13m8, k13m9]
  instanceTypes := #[(.array .byte), .byte, .boolean, .int]
  staticTypes := #[(.array .byte)]
  resolved := Array.replicate 609 none
  statics := none }

def pool14 : Array CpInfo := pool [(1, .methodref 2 3), (0, .class_ 4), (0, .nameAndType 5 6), (0, u "java/lang/AbstractStringBuilder"), (0, u "<init>"), (0, u "(I)V"), (11, .class_ 20), (1, u "java/lang/String"), (3, .class_ 26), (1, u "java/lang/StringBuilder"), (0, u "append"), (0, u "(Ljava/lang/String;)Ljava/lang/StringBuilder;"), (0, .methodref 2 30), (0, .nameAndType 27 31), (0, u "(Ljava/lang/String;)Ljava/lang/AbstractStringBuilder;"), (105, .methodref 18 138), (0, .nameAndType 5 139), (0, u "(Ljava/lang/StringBuilder;)V"), (5, u "()V"), (10, u "()I"), (186, .methodref 2 344), (0, .nameAndType 345 156), (0, u "length"), (3, .class_ 350), (0, u "java/lang/Appendable"), (0, .class_ 352), (0, u "java/io/Serializable"), (0, .class_ 354), (0, u "java/lang/Comparable"), (0, .class_ 356), (0, u "java/lang/CharSequence"), (0, u "serialVersionUID"), (0, u "J"), (40, u "toString"), (0, u "()Ljava/lang/String;")] 21

def k14c0 : Code := { maxStack := 2, maxLocals := 1, code := jdk_67_method_1_code, exceptionTable := #[], attributes := #[] }
def k14m0 : Method := { name := "<init>", desc := "()V", sig := { parameters := [], returnType := none }, accessFlags := 1, code := some k14c0 }
def k14c1 : Code := { maxStack := 2, maxLocals := 2, code := jdk_67_method_7_code, exceptionTable := #[], attributes := #[] }
def k14m1 : Method := { name := "append", desc := "(Ljava/lang/String;)Ljava/lang/StringBuilder;", sig := { parameters := [(.object "java/lang/String")], returnType := some (.object "java/lang/StringBuilder") }, accessFlags := 1, code := some k14c1 }
def k14c2 : Code := { maxStack := 3, maxLocals := 1, code := jdk_67_method_42_code, exceptionTable := #[], attributes := #[] }
def k14m2 : Method := { name := "toString", desc := "()Ljava/lang/String;", sig := { parameters := [], returnType := some (.object "java/lang/String") }, accessFlags := 1, code := some k14c2 }
def k14c3 : Code := { maxStack := 1, maxLocals := 1, code := jdk_67_method_93_code, exceptionTable := #[], attributes := #[] }
def k14m3 : Method := { name := "length", desc := "()I", sig := { parameters := [], returnType := some .int }, accessFlags := 4161, code := some k14c3 }
/-- java/lang/StringBuilder -/
def k14 : Class := { plain "java/lang/StringBuilder" (some 13) with
  accessFlags := 49
  interfaces := #[12, 2, 3, 4]
  cf := some (fileOf pool14 24 #[] #[{ accessFlags := 1, nameIndex := 5, descriptorIndex := 145, attributes := #[] }, { accessFlags := 1, nameIndex := 27, descriptorIndex := 28, attributes := #[] }, { accessFlags := 1, nameIndex := 399, descriptorIndex := 400, attributes := #[] }, { accessFlags := 4161, nameIndex := 345, descriptorIndex := 156, attributes := #[] }] 49 2 #[349, 351, 353, 355] #[{ accessFlags := 24, nameIndex := 357, descriptorIndex := 358, attributes := #[] }])
  fields := #[{ name := "serialVersionUID", type := .long, accessFlags := 24, slot := 0, constantValue := 0 }]
  methods := #[k14m0, k14m1, k14m2, k14m3]
  instanceTypes := #[(.array .byte), .byte, .boolean, .int]
  staticTypes := #[.long]
  resolved := Array.replicate 422 none
  statics := none }

def pool15 : Array CpInfo := pool [(2, .class_ 4), (1, u "java/lang/Object"), (0, u "<init>"), (0, u "()V"), (1, .class_ 10), (1, u "java/lang/System"), (0, u "allowSecurityManager"), (0, u "I"), (16, u "cons"), (0, u "Ljava/io/Console;"), (77, .class_ 110), (1, u "java/lang/System$CallersHolder"), (43, u "initialErrStream"), (0, u "Ljava/io/PrintStream;"), (19, u "security"), (0, u "Ljava/lang/SecurityManager;"), (31, .class_ 209), (0, u "java/lang/System$1"), (7, u "props"), (0, u "Ljava/util/Properties;"), (2, u "lineSeparator"), (0, u "Ljava/lang/String;"), (96, .class_ 321), (1, u "java/lang/System$LoggerFinder"), (5, .class_ 328), (0, u "java/lang/System$Logger"), (67, u "err"), (2, u "out"), (91, u "notSupportedJnuEncoding"), (15, u "in"), (17, u "initialIn"), (0, u "Ljava/io/InputStream;"), (35, u "bootLayer"), (0, u "Ljava/lang/ModuleLayer;"), (99, .class_ 664), (0, u "java/lang/System$2"), (9, u "NEVER"), (2, u "MAYBE"), (49, u "arraycopy"), (0, u "(Ljava/lang/Object;ILjava/lang/Object;II)V"), (72, .class_ 802), (0, u "java/lang/System$Logger$Level")] 31

def k15m0 : Method := { name := "<init>", desc := "()V", sig := { parameters := [], returnType := none }, accessFlags := 2, code := none }
def k15m1 : Method := { name := "arraycopy", desc := "(Ljava/lang/Object;ILjava/lang/Object;II)V", sig := { parameters := [(.object "java/lang/Object"), .int, (.object "java/lang/Object"), .int, .int], returnType := none }, accessFlags := 265, code := none }
/-- java/lang/System -/
def k15 : Class := { plain "java/lang/System" (some 0) with
  accessFlags := 49
  interfaces := #[]
  cf := some (fileOf pool15 8 #[.nestMembers #[319, 327, 801, 108, 663, 208]] #[{ accessFlags := 2, nameIndex := 5, descriptorIndex := 6, attributes := #[] }, { accessFlags := 265, nameIndex := 727, descriptorIndex := 728, attributes := #[] }] 49 2 #[] #[{ accessFlags := 25, nameIndex := 507, descriptorIndex := 526, attributes := #[] }, { accessFlags := 25, nameIndex := 399, descriptorIndex := 155, attributes := #[] }, { accessFlags := 25, nameIndex := 396, descriptorIndex := 155, attributes := #[] }, { accessFlags := 10, nameIndex := 525, descriptorIndex := 526, attributes := #[] }, { accessFlags := 26, nameIndex := 674, descriptorIndex := 12, attributes := #[] }, { accessFlags := 26, nameIndex := 677, descriptorIndex := 12, attributes := #[] }, { accessFlags := 10, nameIndex := 11, descriptorIndex := 12, attributes := #[] }, { accessFlags := 74, nameIndex := 175, descriptorIndex := 176, attributes := #[] }, { accessFlags := 10, nameIndex := 491, descriptorIndex := 222, attributes := #[] }, { accessFlags := 74, nameIndex := 29, descriptorIndex := 30, attributes := #[] }, { accessFlags := 74, nameIndex := 154, descriptorIndex := 155, attributes := #[] }, { accessFlags := 10, nameIndex := 217, descriptorIndex := 218, attributes := #[] }, { accessFlags := 10, nameIndex := 221, descriptorIndex := 222, attributes := #[] }, { accessFlags := 8, nameIndex := 562, descriptorIndex := 563, attributes := #[] }])
  fields := #[{ name := "in", type := (.object "java/io/InputStream"), accessFlags := 25, slot := 0, constantValue := 0 }, { name := "out", type := (.object "java/io/PrintStream"), accessFlags := 25, slot := 1, constantValue := 0 }, { name := "err", type := (.object "java/io/PrintStream"), accessFlags := 25, slot := 2, constantValue := 0 }, { name := "initialIn", type := (.object "java/io/InputStream"), accessFlags := 10, slot := 3, constantValue := 0 }, { name := "NEVER", type := .int, accessFlags := 26, slot := 4, constantValue := 0 }, { name := "MAYBE", type := .int, accessFlags := 26, slot := 5, constantValue := 0 }, { name := "allowSecurityManager", type := .int, accessFlags := 10, slot := 6, constantValue := 0 }, { name := "security", type := (.object "java/lang/SecurityManager"), accessFlags := 74, slot := 7, constantValue := 0 }, { name := "notSupportedJnuEncoding", type := (.object "java/lang/String"), accessFlags := 10, slot := 8, constantValue := 0 }, { name := "cons", type := (.object "java/io/Console"), accessFlags := 74, slot := 9, constantValue := 0 }, { name := "initialErrStream", type := (.object "java/io/PrintStream"), accessFlags := 74, slot := 10, constantValue := 0 }, { name := "props", type := (.object "java/util/Properties"), accessFlags := 10, slot := 11, constantValue := 0 }, { name := "lineSeparator", type := (.object "java/lang/String"), accessFlags := 10, slot := 12, constantValue := 0 }, { name := "bootLayer", type := (.object "java/lang/ModuleLayer"), accessFlags := 8, slot := 13, constantValue := 0 }]
  methods := #[k15m0, k15m1]
  instanceTypes := #[]
  staticTypes := #[(.object "java/io/InputStream"), (.object "java/io/PrintStream"), (.object "java/io/PrintStream"), (.object "java/io/InputStream"), .int, .int, .int, (.object "java/lang/SecurityManager"), (.object "java/lang/String"), (.object "java/io/Console"), (.object "java/io/PrintStream"), (.object "java/util/Properties"), (.object "java/lang/String"), (.object "java/lang/ModuleLayer")]
  resolved := Array.replicate 834 none
  statics := none }

def pool16 : Array CpInfo := pool [(9, u "<init>"), (6, .class_ 18), (1, u "java/lang/Object"), (0, u "()V"), (1, .class_ 23), (1, u "jdk/internal/util/ArraysSupport"), (0, u "LOG2_ARRAY_LONG_INDEX_SCALE"), (0, u "I"), (2, u "U"), (0, u "Ljdk/internal/misc/Unsafe;"), (8, u "BIG_ENDIAN"), (0, u "Z"), (8, u "LOG2_BYTE_BIT_SIZE"), (4, u "LOG2_ARRAY_INT_INDEX_SCALE"), (54, u "JLA"), (0, u "Ljdk/internal/access/JavaLangAccess;"), (11, u "LOG2_ARRAY_BOOLEAN_INDEX_SCALE"), (9, u "LOG2_ARRAY_BYTE_INDEX_SCALE"), (5, u "LOG2_ARRAY_CHAR_INDEX_SCALE"), (5, u "LOG2_ARRAY_SHORT_INDEX_SCALE"), (18, u "LOG2_ARRAY_FLOAT_INDEX_SCALE"), (24, u "LOG2_ARRAY_DOUBLE_INDEX_SCALE"), (6, .methodref 195 196), (0, .class_ 197), (0, .nameAndType 198 199), (0, u "java/lang/Math"), (0, u "max"), (0, u "(II)I"), (0, .integer 2147483639), (76, u "T_BOOLEAN"), (2, u "T_CHAR"), (1, u "T_FLOAT"), (1, u "T_DOUBLE"), (1, u "T_BYTE"), (1, u "T_SHORT"), (1, u "T_INT"), (1, u "T_LONG"), (1, u "SOFT_MAX_ARRAY_LENGTH"), (56, u "newLength"), (0, u "(III)I")] 25

def k16m0 : Method := { name := "<init>", desc := "()V", sig := { parameters := [], returnType := none }, accessFlags := 2, code := none }
def k16c1 : Code := { maxStack := 3, maxLocals := 4, code := jdk_48_method_27_code, exceptionTable := #[], attributes := #[] }
def k16m1 : Method := { name := "newLength", desc := "(III)I", sig := { parameters := [.int, .int, .int], returnType := some .int }, accessFlags := 9, code := some k16c1 }
/-- jdk/internal/util/ArraysSupport -/
def k16 : Class := { plain "jdk/internal/util/ArraysSupport" (some 0) with
  accessFlags := 33
  interfaces := #[]
  cf := some (fileOf pool16 21 #[] #[{ accessFlags := 2, nameIndex := 9, descriptorIndex := 19, attributes := #[] }, { accessFlags := 9, nameIndex := 351, descriptorIndex := 352, attributes := #[] }] 33 16 #[] #[{ accessFlags := 24, nameIndex := 28, descriptorIndex := 29, attributes := #[] }, { accessFlags := 26, nameIndex := 38, descriptorIndex := 39, attributes := #[] }, { accessFlags := 25, nameIndex := 121, descriptorIndex := 25, attributes := #[] }, { accessFlags := 25, nameIndex := 131, descriptorIndex := 25, attributes := #[] }, { accessFlags := 25, nameIndex := 137, descriptorIndex := 25, attributes := #[] }, { accessFlags := 25, nameIndex := 143, descriptorIndex := 25, attributes := #[] }, { accessFlags := 25, nameIndex := 53, descriptorIndex := 25, attributes := #[] }, { accessFlags := 25, nameIndex := 24, descriptorIndex := 25, attributes := #[] }, { accessFlags := 25, nameIndex := 162, descriptorIndex := 25, attributes := #[] }, { accessFlags := 25, nameIndex := 187, descriptorIndex := 25, attributes := #[] }, { accessFlags := 26, nameIndex := 48, descriptorIndex := 25, attributes := #[] }, { accessFlags := 25, nameIndex := 277, descriptorIndex := 25, attributes := #[] }, { accessFlags := 25, nameIndex := 280, descriptorIndex := 25, attributes := #[] }, { accessFlags := 25, nameIndex := 282, descriptorIndex := 25, attributes := #[] }, { accessFlags := 25, nameIndex := 284, descriptorIndex := 25, attributes := #[] }, { accessFlags := 25, nameIndex := 286, descriptorIndex := 25, attributes := #[] }, { accessFlags := 25, nameIndex := 288, descriptorIndex := 25, attributes := #[] }, { accessFlags := 25, nameIndex := 290, descriptorIndex := 25, attributes := #[] }, { accessFlags := 25, nameIndex := 292, descriptorIndex := 25, attributes := #[] }, { accessFlags := 26, nameIndex := 108, descriptorIndex := 109, attributes := #[] }, { accessFlags := 25, nameIndex := 294, descriptorIndex := 25, attributes := #[] }])
  fields := #[{ name := "U", type := (.object "jdk/internal/misc/Unsafe"), accessFlags := 24, slot := 0, constantValue := 0 }, { name := "BIG_ENDIAN", type := .boolean, accessFlags := 26, slot := 1, constantValue := 0 }, { name := "LOG2_ARRAY_BOOLEAN_INDEX_SCALE", type := .int, accessFlags := 25, slot := 2, constantValue := 0 }, { name := "LOG2_ARRAY_BYTE_INDEX_SCALE", type := .int, accessFlags := 25, slot := 3, constantValue := 0 }, { name := "LOG2_ARRAY_CHAR_INDEX_SCALE", type := .int, accessFlags := 25, slot := 4, constantValue := 0 }, { name := "LOG2_ARRAY_SHORT_INDEX_SCALE", type := .int, accessFlags := 25, slot := 5, constantValue := 0 }, { name := "LOG2_ARRAY_INT_INDEX_SCALE", type := .int, accessFlags := 25, slot := 6, constantValue := 0 }, { name := "LOG2_ARRAY_LONG_INDEX_SCALE", type := .int, accessFlags := 25, slot := 7, constantValue := 0 }, { name := "LOG2_ARRAY_FLOAT_INDEX_SCALE", type := .int, accessFlags := 25, slot := 8, constantValue := 0 }, { name := "LOG2_ARRAY_DOUBLE_INDEX_SCALE", type := .int, accessFlags := 25, slot := 9, constantValue := 0 }, { name := "LOG2_BYTE_BIT_SIZE", type := .int, accessFlags := 26, slot := 10, constantValue := 0 }, { name := "T_BOOLEAN", type := .int, accessFlags := 25, slot := 11, constantValue := 0 }, { name := "T_CHAR", type := .int, accessFlags := 25, slot := 12, constantValue := 0 }, { name := "T_FLOAT", type := .int, accessFlags := 25, slot := 13, constantValue := 0 }, { name := "T_DOUBLE", type := .int, accessFlags := 25, slot := 14, constantValue := 0 }, { name := "T_BYTE", type := .int, accessFlags := 25, slot := 15, constantValue := 0 }, { name := "T_SHORT", type := .int, accessFlags := 25, slot := 16, constantValue := 0 }, { name := "T_INT", type := .int, accessFlags := 25, slot := 17, constantValue := 0 }, { name := "T_LONG", type := .int, accessFlags := 25, slot := 18, constantValue := 0 }, { name := "JLA", type := (.object "jdk/internal/access/JavaLangAccess"), accessFlags := 26, slot := 19, constantValue := 0 }, { name := "SOFT_MAX_ARRAY_LENGTH", type := .int, accessFlags := 25, slot := 20, constantValue := 0 }]
  methods := #[k16m0, k16m1]
  instanceTypes := #[]
  staticTypes := #[(.object "jdk/internal/misc/Unsafe"), .boolean, .int, .int, .int, .int, .int, .int, .int, .int, .int, .int, .int, .int, .int, .int, .int, .int, .int, (.object "jdk/internal/access/JavaLangAccess"), .int]
  resolved := Array.replicate 378 none
  statics := none }

def pool17 : Array CpInfo := pool [(1, .class_ 2), (0, u "java/lang/Math"), (1, .class_ 6), (1, u "java/lang/Object"), (0, u "<init>"), (0, u "()V"), (89, .class_ 100), (1, u "java/lang/Math$RandomNumberGeneratorHolder"), (71, u "negativeZeroFloatBits"), (0, u "J"), (2, u "negativeZeroDoubleBits"), (21, u "max"), (2, u "min"), (43, u "$assertionsDisabled"), (0, u "Z"), (88, u "(II)I"), (2, u "twoToTheDoubleScaleDown"), (0, u "D"), (4, u "twoToTheDoubleScaleUp"), (9, u "E"), (3, u "PI"), (2, u "TAU"), (2, u "DEGREES_TO_RADIANS"), (0, u "RADIANS_TO_DEGREES")] 94

def k17m0 : Method := { name := "<init>", desc := "()V", sig := { parameters := [], returnType := none }, accessFlags := 2, code := none }
def k17c1 : Code := { maxStack := 2, maxLocals := 2, code := jdk_29_method_65_code, exceptionTable := #[], attributes := #[] }
def k17m1 : Method := { name := "max", desc := "(II)I", sig := { parameters := [.int, .int], returnType := some .int }, accessFlags := 9, code := some k17c1 }
def k17c2 : Code := { maxStack := 2, maxLocals := 2, code := jdk_29_method_69_code, exceptionTable := #[], attributes := #[] }
def k17m2 : Method := { name := "min", desc := "(II)I", sig := { parameters := [.int, .int], returnType := some .int }, accessFlags := 9, code := some k17c2 }
/-- java/lang/Math -/
def k17 : Class := { plain "java/lang/Math" (some 0) with
  accessFlags := 49
  interfaces := #[]
  cf := some (fileOf pool17 1 #[.nestMembers #[98]] #[{ accessFlags := 2, nameIndex := 7, descriptorIndex := 8, attributes := #[] }, { accessFlags := 9, nameIndex := 198, descriptorIndex := 335, attributes := #[] }, { accessFlags := 9, nameIndex := 201, descriptorIndex := 335, attributes := #[] }] 49 4 #[] #[{ accessFlags := 25, nameIndex := 354, descriptorIndex := 339, attributes := #[] }, { accessFlags := 25, nameIndex := 358, descriptorIndex := 339, attributes := #[] }, { accessFlags := 25, nameIndex := 361, descriptorIndex := 339, attributes := #[] }, { accessFlags := 26, nameIndex := 364, descriptorIndex := 339, attributes := #[] }, { accessFlags := 26, nameIndex := 365, descriptorIndex := 339, attributes := #[] }, { accessFlags := 26, nameIndex := 172, descriptorIndex := 173, attributes := #[] }, { accessFlags := 26, nameIndex := 176, descriptorIndex := 173, attributes := #[] }, { accessFlags := 8, nameIndex := 344, descriptorIndex := 339, attributes := #[] }, { accessFlags := 8, nameIndex := 338, descriptorIndex := 339, attributes := #[] }, { accessFlags := 4120, nameIndex := 245, descriptorIndex := 246, attributes := #[] }])
  fields := #[{ name := "E", type := .double, accessFlags := 25, slot := 0, constantValue := 0 }, { name := "PI", type := .double, accessFlags := 25, slot := 1, constantValue := 0 }, { name := "TAU", type := .double, accessFlags := 25, slot := 2, constantValue := 0 }, { name := "DEGREES_TO_RADIANS", type := .double, accessFlags := 26, slot := 3, constantValue := 0 }, { name := "RADIANS_TO_DEGREES", type := .double, accessFlags := 26, slot := 4, constantValue := 0 }, { name := "negativeZeroFloatBits", type := .long, accessFlags := 26, slot := 5, constantValue := 0 }, { name := "negativeZeroDoubleBits", type := .long, accessFlags := 26, slot := 6, constantValue := 0 }, { name := "twoToTheDoubleScaleUp", type := .double, accessFlags := 8, slot := 7, constantValue := 0 }, { name := "twoToTheDoubleScaleDown", type := .double, accessFlags := 8, slot := 8, constantValue := 0 }, { name := "$assertionsDisabled", type := .boolean, accessFlags := 4120, slot := 9, constantValue := 0 }]
  methods := #[k17m0, k17m1, k17m2]
  instanceTypes := #[]
  staticTypes := #[.double, .double, .double, .double, .double, .long, .long, .double, .double, .boolean]
  resolved := Array.replicate 460 none
  statics := none }

def pool18 : Array CpInfo := pool [(2, .class_ 4), (1, u "java/lang/Object"), (0, u "<init>"), (0, u "()V"), (7, .class_ 16), (1, u "java/util/Arrays"), (57, .class_ 76), (1, u "java/util/Arrays$NaturalOrder"), (32, u "()Ljava/lang/Object;"), (3, .class_ 115), (1, u "java/util/Arrays$LegacyMergeSort"), (1, u "Z"), (10, .nameAndType 129 109), (0, u "clone"), (9, u "copyOfRange"), (10, .methodref 151 152), (0, .class_ 153), (0, .nameAndType 154 155), (0, u "java/lang/System"), (0, u "arraycopy"), (0, u "(Ljava/lang/Object;ILjava/lang/Object;II)V"), (146, u "copyOf"), (1, .methodref 305 306), (0, .class_ 307), (0, .nameAndType 308 309), (0, u "java/lang/Math"), (0, u "min"), (0, u "(II)I"), (0, .methodref 311 128), (0, .class_ 312), (0, u "[B"), (26, .methodref 14 340), (0, .nameAndType 341 342), (0, u "copyOfRangeByte"), (0, u "([BII)[B"), (0, .methodref 14 344), (0, .nameAndType 345 346), (0, u "checkLength"), (0, u "(II)V"), (28, .class_ 376), (0, u "java/util/Arrays$ArrayList"), (68, u "$assertionsDisabled"), (269, u "MIN_ARRAY_SORT_GRAN"), (0, u "I"), (2, u "INSERTIONSORT_THRESHOLD"), (149, u "([BI)[B"), (105, .class_ 976), (0, u "java/util/Arrays$ArrayItr")] 52

def k18m0 : Method := { name := "<init>", desc := "()V", sig := { parameters := [], returnType := none }, accessFlags := 2, code := none }
def k18c1 : Code := { maxStack := 6, maxLocals := 3, code := jdk_65_method_121_code, exceptionTable := #[], attributes := #[] }
def k18m1 : Method := { name := "copyOf", desc := "([BI)[B", sig := { parameters := [(.array .byte), .int], returnType := some (.array .byte) }, accessFlags := 9, code := some k18c1 }
def k18c2 : Code := { maxStack := 4, maxLocals := 2, code := jdk_65_method_131_code, exceptionTable := #[], attributes := #[] }
def k18m2 : Method := { name := "checkLength", desc := "(II)V", sig := { parameters := [.int, .int], returnType := none }, accessFlags := 10, code := some k18c2 }
def k18c3 : Code := { maxStack := 3, maxLocals := 3, code := jdk_65_method_132_code, exceptionTable := #[], attributes := #[] }
def k18m3 : Method := { name := "copyOfRange", desc := "([BII)[B", sig := { parameters := [(.array .byte), .int, .int], returnType := some (.array .byte) }, accessFlags := 9, code := some k18c3 }
def k18c4 : Code := { maxStack := 6, maxLocals := 5, code := jdk_65_method_133_code, exceptionTable := #[], attributes := #[] }
def k18m4 : Method := { name := "copyOfRangeByte", desc := "([BII)[B", sig := { parameters := [(.array .byte), .int, .int], returnType := some (.array .byte) }, accessFlags := 10, code := some k18c4 }
/-- java/util/Arrays -/
def k18 : Class := { plain "java/util/Arrays" (some 0) with
  accessFlags := 49
  interfaces := #[]
  cf := some (fileOf pool18 14 #[.nestMembers #[975, 375, 113, 74]] #[{ accessFlags := 2, nameIndex := 5, descriptorIndex := 6, attributes := #[] }, { accessFlags := 9, nameIndex := 302, descriptorIndex := 869, attributes := #[] }, { accessFlags := 10, nameIndex := 345, descriptorIndex := 346, attributes := #[] }, { accessFlags := 9, nameIndex := 139, descriptorIndex := 342, attributes := #[] }, { accessFlags := 10, nameIndex := 341, descriptorIndex := 342, attributes := #[] }] 49 2 #[] #[{ accessFlags := 26, nameIndex := 715, descriptorIndex := 716, attributes := #[] }, { accessFlags := 26, nameIndex := 719, descriptorIndex := 716, attributes := #[] }, { accessFlags := 4120, nameIndex := 445, descriptorIndex := 117, attributes := #[] }])
  fields := #[{ name := "MIN_ARRAY_SORT_GRAN", type := .int, accessFlags := 26, slot := 0, constantValue := 0 }, { name := "INSERTIONSORT_THRESHOLD", type := .int, accessFlags := 26, slot := 1, constantValue := 0 }, { name := "$assertionsDisabled", type := .boolean, accessFlags := 4120, slot := 2, constantValue := 0 }]
  methods := #[k18m0, k18m1, k18m2, k18m3, k18m4]
  instanceTypes := #[]
  staticTypes := #[.int, .int, .boolean]
  resolved := Array.replicate 1029 none
  statics := none }

def pool19 : Array CpInfo := pool [(1, .class_ 2), (0, u "java/lang/Cloneable"), (0, .class_ 4), (0, u "java/lang/Object")] 2

/-- java/lang/Cloneable -/
def k19 : Class := { plain "java/lang/Cloneable" (some 0) with
  accessFlags := 1537
  interfaces := #[]
  cf := some (fileOf pool19 1 #[] #[] 1537 3 #[] #[])
  fields := #[]
  methods := #[]
  instanceTypes := #[]
  staticTypes := #[]
  resolved := Array.replicate 7 none
  statics := none }

def pool20 : Array CpInfo := pool [(2, .class_ 4), (1, u "java/lang/Object"), (0, u "<init>"), (0, u "()V"), (17, .class_ 26), (1, u "jdk/internal/util/Preconditions"), (28, .class_ 56), (0, u "jdk/internal/util/Preconditions$4"), (57, .class_ 115), (0, u "jdk/internal/util/Preconditions$1"), (7, u "SIOOBE_FORMATTER"), (0, u "Ljava/util/function/BiFunction;"), (0, .class_ 126), (0, u "jdk/internal/util/Preconditions$2"), (3, u "AIOOBE_FORMATTER"), (0, .class_ 132), (0, u "jdk/internal/util/Preconditions$3"), (3, u "IOOBE_FORMATTER")] 57

def k20m0 : Method := { name := "<init>", desc := "()V", sig := { parameters := [], returnType := none }, accessFlags := 1, code := none }
/-- jdk/internal/util/Preconditions -/
def k20 : Class := { plain "jdk/internal/util/Preconditions" (some 0) with
  accessFlags := 33
  interfaces := #[]
  cf := some (fileOf pool20 24 #[.nestMembers #[55, 131, 125, 114]] #[{ accessFlags := 1, nameIndex := 5, descriptorIndex := 6, attributes := #[] }] 33 2 #[] #[{ accessFlags := 25, nameIndex := 123, descriptorIndex := 124, attributes := #[] }, { accessFlags := 25, nameIndex := 130, descriptorIndex := 124, attributes := #[] }, { accessFlags := 25, nameIndex := 136, descriptorIndex := 124, attributes := #[] }])
  fields := #[{ name := "SIOOBE_FORMATTER", type := (.object "java/util/function/BiFunction"), accessFlags := 25, slot := 0, constantValue := 0 }, { name := "AIOOBE_FORMATTER", type := (.object "java/util/function/BiFunction"), accessFlags := 25, slot := 1, constantValue := 0 }, { name := "IOOBE_FORMATTER", type := (.object "java/util/function/BiFunction"), accessFlags := 25, slot := 2, constantValue := 0 }]
  methods := #[k20m0]
  instanceTypes := #[]
  staticTypes := #[(.object "java/util/function/BiFunction"), (.object "java/util/function/BiFunction"), (.object "java/util/function/BiFunction")]
  resolved := Array.replicate 194 none
  statics := some 2 }

/-- the primitive byte -/
def k21 : Class := { plain "byte" none with kind := .primitive 'B', accessFlags := 0x411 }
/-- [B -/
def k22 : Class := { plain "[B" (some 0) with kind := .array 21 .byte, interfaces := #[19, 2], accessFlags := 1041 }

/-- the primitive char -/
def k23 : Class := { plain "char" none with kind := .primitive 'C', accessFlags := 0x411 }
/-- [C -/
def k24 : Class := { plain "[C" (some 0) with kind := .array 23 .char, interfaces := #[19, 2], accessFlags := 1041 }

/-- the primitive int -/
def k25 : Class := { plain "int" none with kind := .primitive 'I', accessFlags := 0x411 }
/-- [I -/
def k26 : Class := { plain "[I" (some 0) with kind := .array 25 .int, interfaces := #[19, 2], accessFlags := 1041 }

def heap : Heap := #[{ cls := 7, slots := #[.long 0, .int 1, .null, .int 0, .null, .int 0, .int 0], vm := .statics 7 },
  { cls := 11, slots := #[.ref 3, .ref 4, .ref 5, .ref 6, .ref 7, .ref 8, .double 0, .null], vm := .statics 11 },
  { cls := 20, slots := #[.null, .null, .null], vm := .statics 20 },
  { cls := 11, slots := #[.null, .int 0, .int 0, .null], vm := .none },
  { cls := 11, slots := #[.null, .int 1, .int 0, .null], vm := .none },
  { cls := 11, slots := #[.null, .int 2, .int 0, .null], vm := .none },
  { cls := 11, slots := #[.null, .int 3, .int 0, .null], vm := .none },
  { cls := 11, slots := #[.null, .int 4, .int 0, .null], vm := .none },
  { cls := 11, slots := #[.null, .int 5, .int 0, .null], vm := .none }]
def classes : Array Class := #[k0, k1, k2, k3, k4, k5, k6, k7, k8, k9, k10, k11, k12, k13, k14, k15, k16, k17, k18, k19, k20, k21, k22, k23, k24, k25, k26]
def interned : List (Array UInt16 × Addr) := []
def slotsUsed : Nat := 42
def theMethod : MethodId := ⟨1, 4⟩
def args0 : Array Value := #[.int 5, .int 5, .int 5]
def aboutOver (below : List Frame) : State where
  vm := { classes := classes, interned := interned.toArray }
  heap := heap
  slotsUsed := slotsUsed
  threads := #[{ frames := .invoking theMethod args0 :: below }]
def below0 : List Frame := [.native { method := ⟨0, 0⟩, args := #[] }]
def about1 : State := aboutOver below0
def p0 : Program := .bare "" "" ""
def e0 : Env := launch0.env 0 0 0
theorem w_frames : about1.frames = Frame.invoking theMethod args0 :: below0 := rfl
set_option maxRecDepth 65536 in
theorem w_args : argsFit about1.vm theMethod args0 = true := by decide +kernel
set_option maxRecDepth 65536 in
theorem w_heap : heapFits about1 = true := by decide +kernel
set_option maxRecDepth 65536 in
theorem w_runnable : about1.curStatus? = some .runnable := by decide +kernel
set_option maxRecDepth 65536 in
theorem w_alone : about1.alone = true := by decide +kernel
set_option maxRecDepth 65536 in
theorem w_named : about1.methodNamed? x = some theMethod := by decide +kernel
set_option maxRecDepth 65536 in
theorem w_hears : about1.hears theMethod below0 = true := by decide +kernel
set_option maxRecDepth 65536 in
theorem w_ripe : about1.ripe theMethod args0 below0 = true := by decide +kernel
theorem w_running : about1.status = .running := rfl
set_option maxRecDepth 65536 in
theorem w_room : about1.hasRoom e0.platform room_1 = true :=
  launch0.hasRoom_least _ room_1 (by decide +kernel) (by decide +kernel) (by decide +kernel) (by decide +kernel) (by decide +kernel) (by decide +kernel)
theorem allAtoms_all (ts : List Jvm.Cond) (a : Array Jvm.Value) (st : Jvm.State) : (allAtoms ts).before a st = ts.all (fun c => c.before a st) := by
  induction ts with
  | nil => rfl
  | cons c t ih =>
    show (Jvm.Cond.and c (allAtoms t)).before a st = _
    rw [Jvm.Cond.before_and, ih, List.all_cons]
def words1 : List Jvm.Cond := Jvm.Cond.code x code maxLocals ret :: tables_1
/-- a 'code' word, met by the world's own term for the bytes: nothing is compared byte by byte -/
theorem code_word {y : MethodName} {bytes : ByteArray} {mx : Nat} {rt : Option FieldType} {a : Array Value} {s : State} {m : MethodId} {meth : Method} {c : Code} (h1 : s.methodNamed? y = some m) (h2 : s.vm.method? m = some meth) (h3 : meth.code = some c) (h4 : c.code = bytes)
    (h5 : (c.maxLocals == mx && c.exceptionTable.isEmpty && decide (c.maxStack ≤ mostOperands) && decide (meth.sig.returnType = rt) && !meth.locks && decide (parseMethodDescriptor y.desc = some meth.sig)) = true) : (Jvm.Cond.code y bytes mx rt).before a s = true := by
  simp only [Bool.and_eq_true, beq_iff_eq, Bool.not_eq_true', decide_eq_true_eq] at h5
  obtain ⟨⟨⟨⟨⟨g1, g2⟩, g3⟩, g4⟩, g5⟩, g6⟩ := h5
  simp [Cond.before, Cond.holds, Cond.value, h1, h2, h3, h4, g1, g2, g3, g4, g5, g6]
def isCode : Jvm.Cond → Bool
  | .code _ _ _ _ => true
  | _ => false
theorem all_split {L : List Jvm.Cond} {P : Jvm.Cond → Bool} (h1 : L.all (fun c => isCode c || P c) = true) (h2 : ∀ c ∈ L.filter isCode, P c = true) : L.all P = true := by
  refine List.all_eq_true.mpr fun c hc => ?_
  have h := List.all_eq_true.mp h1 c hc
  rcases Bool.eq_false_or_eq_true (isCode c) with hi | hi
  · exact h2 c (List.mem_filter.mpr ⟨hc, hi⟩)
  · simpa [hi] using h
set_option maxRecDepth 65536 in
theorem w_c0 : (Jvm.Cond.code x code maxLocals ret).before args0 about1 = true := code_word (m := ⟨1, 4⟩) (meth := k1m4) (c := k1c4) (by decide +kernel) rfl rfl rfl (by decide +kernel)
set_option maxRecDepth 65536 in
theorem w_c1 : (Jvm.Cond.code ({ cls := "java/lang/String", name := "valueOf", desc := "(C)Ljava/lang/String;" } : Jvm.MethodName) jdk_42_method_139_code (1 : Nat) (Option.some (Jvm.ClassFile.FieldType.object "java/lang/String"))).before args0 about1 = true := code_word (m := ⟨7, 5⟩) (meth := k7m5) (c := k7c5) (by decide +kernel) rfl rfl rfl (by decide +kernel)
set_option maxRecDepth 65536 in
theorem w_c2 : (Jvm.Cond.code ({ cls := "java/lang/StringLatin1", name := "canEncode", desc := "(C)Z" } : Jvm.MethodName) jdk_43_method_3_code (1 : Nat) (Option.some Jvm.ClassFile.FieldType.boolean)).before args0 about1 = true := code_word (m := ⟨8, 1⟩) (meth := k8m1) (c := k8c1) (by decide +kernel) rfl rfl rfl (by decide +kernel)
set_option maxRecDepth 65536 in
theorem w_c3 : (Jvm.Cond.code ({ cls := "java/lang/StringLatin1", name := "toBytes", desc := "(C)[B" } : Jvm.MethodName) jdk_43_method_46_code (1 : Nat) (Option.some (Jvm.ClassFile.FieldType.array Jvm.ClassFile.FieldType.byte))).before args0 about1 = true := code_word (m := ⟨8, 3⟩) (meth := k8m3) (c := k8c3) (by decide +kernel) rfl rfl rfl (by decide +kernel)
set_option maxRecDepth 65536 in
theorem w_c4 : (Jvm.Cond.code ({ cls := "java/lang/String", name := "<init>", desc := "([BB)V" } : Jvm.MethodName) jdk_42_method_151_code (3 : Nat) (Option.none : Option Jvm.ClassFile.FieldType)).before args0 about1 = true := code_word (m := ⟨7, 9⟩) (meth := k7m9) (c := k7c9) (by decide +kernel) rfl rfl rfl (by decide +kernel)
set_option maxRecDepth 65536 in
theorem w_c5 : (Jvm.Cond.code ({ cls := "java/lang/Object", name := "<init>", desc := "()V" } : Jvm.MethodName) object_method_1_code (1 : Nat) (Option.none : Option Jvm.ClassFile.FieldType)).before args0 about1 = true := code_word (m := ⟨0, 0⟩) (meth := k0m0) (c := k0c0) (by decide +kernel) rfl rfl rfl (by decide +kernel)
set_option maxRecDepth 65536 in
theorem w_c6 : (Jvm.Cond.code ({ cls := x.cls, name := "expected", desc := "(ICCC)Ljava/lang/String;" } : Jvm.MethodName) method_4_code (6 : Nat) (Option.some (Jvm.ClassFile.FieldType.object "java/lang/String"))).before args0 about1 = true := code_word (m := ⟨1, 3⟩) (meth := k1m3) (c := k1c3) (by decide +kernel) rfl rfl rfl (by decide +kernel)
set_option maxRecDepth 65536 in
theorem w_c7 : (Jvm.Cond.code ({ cls := x.cls, name := "core", desc := "([CICCC)V" } : Jvm.MethodName) method_2_code (5 : Nat) (Option.none : Option Jvm.ClassFile.FieldType)).before args0 about1 = true := code_word (m := ⟨1, 1⟩) (meth := k1m1) (c := k1c1) (by decide +kernel) rfl rfl rfl (by decide +kernel)
set_option maxRecDepth 65536 in
theorem w_c8 : (Jvm.Cond.code ({ cls := "java/lang/String", name := "<init>", desc := "([C)V" } : Jvm.MethodName) jdk_42_method_3_code (2 : Nat) (Option.none : Option Jvm.ClassFile.FieldType)).before args0 about1 = true := code_word (m := ⟨7, 1⟩) (meth := k7m1) (c := k7c1) (by decide +kernel) rfl rfl rfl (by decide +kernel)
set_option maxRecDepth 65536 in
theorem w_c9 : (Jvm.Cond.code ({ cls := "java/lang/String", name := "<init>", desc := "([CIILjava/lang/Void;)V" } : Jvm.MethodName) jdk_42_method_149_code (6 : Nat) (Option.none : Option Jvm.ClassFile.FieldType)).before args0 about1 = true := code_word (m := ⟨7, 7⟩) (meth := k7m7) (c := k7c7) (by decide +kernel) rfl rfl rfl (by decide +kernel)
set_option maxRecDepth 65536 in
theorem w_c10 : (Jvm.Cond.code ({ cls := "java/lang/StringUTF16", name := "compress", desc := "([CII)[B" } : Jvm.MethodName) jdk_52_method_16_code (6 : Nat) (Option.some (Jvm.ClassFile.FieldType.array Jvm.ClassFile.FieldType.byte))).before args0 about1 = true := code_word (m := ⟨9, 2⟩) (meth := k9m2) (c := k9c2) (by decide +kernel) rfl rfl rfl (by decide +kernel)
set_option maxRecDepth 65536 in
theorem w_c11 : (Jvm.Cond.code ({ cls := "java/lang/StringUTF16", name := "compress", desc := "([CI[BII)I" } : Jvm.MethodName) jdk_52_method_21_code (7 : Nat) (Option.some Jvm.ClassFile.FieldType.int)).before args0 about1 = true := code_word (m := ⟨9, 3⟩) (meth := k9m3) (c := k9c3) (by decide +kernel) rfl rfl rfl (by decide +kernel)
set_option maxRecDepth 65536 in
theorem w_c12 : (Jvm.Cond.code ({ cls := "java/lang/StringUTF16", name := "coderFromArrayLen", desc := "([BI)B" } : Jvm.MethodName) jdk_52_method_15_code (2 : Nat) (Option.some Jvm.ClassFile.FieldType.byte)).before args0 about1 = true := code_word (m := ⟨9, 1⟩) (meth := k9m1) (c := k9c1) (by decide +kernel) rfl rfl rfl (by decide +kernel)
set_option maxRecDepth 65536 in
theorem w_c13 : (Jvm.Cond.code ({ cls := x.cls, name := "head", desc := "([CCCC)V" } : Jvm.MethodName) method_3_code (4 : Nat) (Option.none : Option Jvm.ClassFile.FieldType)).before args0 about1 = true := code_word (m := ⟨1, 2⟩) (meth := k1m2) (c := k1c2) (by decide +kernel) rfl rfl rfl (by decide +kernel)
set_option maxRecDepth 65536 in
theorem w_c14 : (Jvm.Cond.code ({ cls := site_118.cls, name := "hql", desc := "(Ljava/lang/String;Ljava/lang/String;Ljava/lang/String;)Ljava/lang/String;" } : Jvm.MethodName) prog_1_method_6_code (5 : Nat) (Option.some (Jvm.ClassFile.FieldType.object "java/lang/String"))).before args0 about1 = true := code_word (m := ⟨11, 0⟩) (meth := k11m0) (c := k11c0) (by decide +kernel) rfl rfl rfl (by decide +kernel)
set_option maxRecDepth 65536 in
theorem w_c15 : (Jvm.Cond.code ({ cls := "java/lang/StringBuilder", name := "<init>", desc := "()V" } : Jvm.MethodName) jdk_67_method_1_code (1 : Nat) (Option.none : Option Jvm.ClassFile.FieldType)).before args0 about1 = true := code_word (m := ⟨14, 0⟩) (meth := k14m0) (c := k14c0) (by decide +kernel) rfl rfl rfl (by decide +kernel)
set_option maxRecDepth 65536 in
theorem w_c16 : (Jvm.Cond.code ({ cls := "java/lang/AbstractStringBuilder", name := "<init>", desc := "(I)V" } : Jvm.MethodName) jdk_68_method_2_code (2 : Nat) (Option.none : Option Jvm.ClassFile.FieldType)).before args0 about1 = true := code_word (m := ⟨13, 1⟩) (meth := k13m1) (c := k13c1) (by decide +kernel) rfl rfl rfl (by decide +kernel)
set_option maxRecDepth 65536 in
theorem w_c17 : (Jvm.Cond.code ({ cls := "java/lang/StringBuilder", name := "append", desc := "(Ljava/lang/String;)Ljava/lang/StringBuilder;" } : Jvm.MethodName) jdk_67_method_7_code (2 : Nat) (Option.some (Jvm.ClassFile.FieldType.object "java/lang/StringBuilder"))).before args0 about1 = true := code_word (m := ⟨14, 1⟩) (meth := k14m1) (c := k14c1) (by decide +kernel) rfl rfl rfl (by decide +kernel)
set_option maxRecDepth 65536 in
theorem w_c18 : (Jvm.Cond.code ({ cls := "java/lang/AbstractStringBuilder", name := "append", desc := "(Ljava/lang/String;)Ljava/lang/AbstractStringBuilder;" } : Jvm.MethodName) jdk_68_method_22_code (3 : Nat) (Option.some (Jvm.ClassFile.FieldType.object "java/lang/AbstractStringBuilder"))).before args0 about1 = true := code_word (m := ⟨13, 5⟩) (meth := k13m5) (c := k13c5) (by decide +kernel) rfl rfl rfl (by decide +kernel)
set_option maxRecDepth 65536 in
theorem w_c19 : (Jvm.Cond.code ({ cls := "java/lang/String", name := "length", desc := "()I" } : Jvm.MethodName) jdk_42_method_54_code (1 : Nat) (Option.some Jvm.ClassFile.FieldType.int)).before args0 about1 = true := code_word (m := ⟨7, 3⟩) (meth := k7m3) (c := k7c3) (by decide +kernel) rfl rfl rfl (by decide +kernel)
set_option maxRecDepth 65536 in
theorem w_c20 : (Jvm.Cond.code ({ cls := "java/lang/String", name := "coder", desc := "()B" } : Jvm.MethodName) jdk_42_method_152_code (1 : Nat) (Option.some Jvm.ClassFile.FieldType.byte)).before args0 about1 = true := code_word (m := ⟨7, 10⟩) (meth := k7m10) (c := k7c10) (by decide +kernel) rfl rfl rfl (by decide +kernel)
set_option maxRecDepth 65536 in
theorem w_c21 : (Jvm.Cond.code ({ cls := "java/lang/AbstractStringBuilder", name := "ensureCapacityInternal", desc := "(I)V" } : Jvm.MethodName) jdk_68_method_9_code (3 : Nat) (Option.none : Option Jvm.ClassFile.FieldType)).before args0 about1 = true := code_word (m := ⟨13, 3⟩) (meth := k13m3) (c := k13c3) (by decide +kernel) rfl rfl rfl (by decide +kernel)
set_option maxRecDepth 65536 in
theorem w_c22 : (Jvm.Cond.code ({ cls := "java/lang/AbstractStringBuilder", name := "putStringAt", desc := "(ILjava/lang/String;)V" } : Jvm.MethodName) jdk_68_method_73_code (3 : Nat) (Option.none : Option Jvm.ClassFile.FieldType)).before args0 about1 = true := code_word (m := ⟨13, 9⟩) (meth := k13m9) (c := k13c9) (by decide +kernel) rfl rfl rfl (by decide +kernel)
set_option maxRecDepth 65536 in
theorem w_c23 : (Jvm.Cond.code ({ cls := "java/lang/AbstractStringBuilder", name := "inflateIfNeededFor", desc := "(Ljava/lang/String;)V" } : Jvm.MethodName) jdk_68_method_71_code (2 : Nat) (Option.none : Option Jvm.ClassFile.FieldType)).before args0 about1 = true := code_word (m := ⟨13, 8⟩) (meth := k13m8) (c := k13c8) (by decide +kernel) rfl rfl rfl (by decide +kernel)
set_option maxRecDepth 65536 in
theorem w_c24 : (Jvm.Cond.code ({ cls := "java/lang/String", name := "getBytes", desc := "([BIB)V" } : Jvm.MethodName) jdk_42_method_147_code (4 : Nat) (Option.none : Option Jvm.ClassFile.FieldType)).before args0 about1 = true := code_word (m := ⟨7, 6⟩) (meth := k7m6) (c := k7c6) (by decide +kernel) rfl rfl rfl (by decide +kernel)
set_option maxRecDepth 65536 in
theorem w_c25 : (Jvm.Cond.code ({ cls := "java/lang/AbstractStringBuilder", name := "newCapacity", desc := "(I)I" } : Jvm.MethodName) jdk_68_method_10_code (6 : Nat) (Option.some Jvm.ClassFile.FieldType.int)).before args0 about1 = true := code_word (m := ⟨13, 4⟩) (meth := k13m4) (c := k13c4) (by decide +kernel) rfl rfl rfl (by decide +kernel)
set_option maxRecDepth 65536 in
theorem w_c26 : (Jvm.Cond.code ({ cls := "jdk/internal/util/ArraysSupport", name := "newLength", desc := "(III)I" } : Jvm.MethodName) jdk_48_method_27_code (4 : Nat) (Option.some Jvm.ClassFile.FieldType.int)).before args0 about1 = true := code_word (m := ⟨16, 1⟩) (meth := k16m1) (c := k16c1) (by decide +kernel) rfl rfl rfl (by decide +kernel)
set_option maxRecDepth 65536 in
theorem w_c27 : (Jvm.Cond.code ({ cls := "java/lang/Math", name := "max", desc := "(II)I" } : Jvm.MethodName) jdk_29_method_65_code (2 : Nat) (Option.some Jvm.ClassFile.FieldType.int)).before args0 about1 = true := code_word (m := ⟨17, 1⟩) (meth := k17m1) (c := k17c1) (by decide +kernel) rfl rfl rfl (by decide +kernel)
set_option maxRecDepth 65536 in
theorem w_c28 : (Jvm.Cond.code ({ cls := "java/util/Arrays", name := "copyOf", desc := "([BI)[B" } : Jvm.MethodName) jdk_65_method_121_code (3 : Nat) (Option.some (Jvm.ClassFile.FieldType.array Jvm.ClassFile.FieldType.byte))).before args0 about1 = true := code_word (m := ⟨18, 1⟩) (meth := k18m1) (c := k18c1) (by decide +kernel) rfl rfl rfl (by decide +kernel)
set_option maxRecDepth 65536 in
theorem w_c29 : (Jvm.Cond.code ({ cls := "java/lang/Math", name := "min", desc := "(II)I" } : Jvm.MethodName) jdk_29_method_69_code (2 : Nat) (Option.some Jvm.ClassFile.FieldType.int)).before args0 about1 = true := code_word (m := ⟨17, 2⟩) (meth := k17m2) (c := k17c2) (by decide +kernel) rfl rfl rfl (by decide +kernel)
set_option maxRecDepth 65536 in
theorem w_c30 : (Jvm.Cond.code ({ cls := "java/lang/StringBuilder", name := "toString", desc := "()Ljava/lang/String;" } : Jvm.MethodName) jdk_67_method_42_code (1 : Nat) (Option.some (Jvm.ClassFile.FieldType.object "java/lang/String"))).before args0 about1 = true := code_word (m := ⟨14, 2⟩) (meth := k14m2) (c := k14c2) (by decide +kernel) rfl rfl rfl (by decide +kernel)
set_option maxRecDepth 65536 in
theorem w_c31 : (Jvm.Cond.code ({ cls := "java/lang/String", name := "<init>", desc := "(Ljava/lang/StringBuilder;)V" } : Jvm.MethodName) jdk_42_method_53_code (2 : Nat) (Option.none : Option Jvm.ClassFile.FieldType)).before args0 about1 = true := code_word (m := ⟨7, 2⟩) (meth := k7m2) (c := k7c2) (by decide +kernel) rfl rfl rfl (by decide +kernel)
set_option maxRecDepth 65536 in
theorem w_c32 : (Jvm.Cond.code ({ cls := "java/lang/String", name := "<init>", desc := "(Ljava/lang/AbstractStringBuilder;Ljava/lang/Void;)V" } : Jvm.MethodName) jdk_42_method_150_code (5 : Nat) (Option.none : Option Jvm.ClassFile.FieldType)).before args0 about1 = true := code_word (m := ⟨7, 8⟩) (meth := k7m8) (c := k7c8) (by decide +kernel) rfl rfl rfl (by decide +kernel)
set_option maxRecDepth 65536 in
theorem w_c33 : (Jvm.Cond.code ({ cls := "java/lang/AbstractStringBuilder", name := "getValue", desc := "()[B" } : Jvm.MethodName) jdk_68_method_64_code (1 : Nat) (Option.some (Jvm.ClassFile.FieldType.array Jvm.ClassFile.FieldType.byte))).before args0 about1 = true := code_word (m := ⟨13, 6⟩) (meth := k13m6) (c := k13c6) (by decide +kernel) rfl rfl rfl (by decide +kernel)
set_option maxRecDepth 65536 in
theorem w_c34 : (Jvm.Cond.code ({ cls := "java/lang/StringBuilder", name := "length", desc := "()I" } : Jvm.MethodName) jdk_67_method_93_code (1 : Nat) (Option.some Jvm.ClassFile.FieldType.int)).before args0 about1 = true := code_word (m := ⟨14, 3⟩) (meth := k14m3) (c := k14c3) (by decide +kernel) rfl rfl rfl (by decide +kernel)
set_option maxRecDepth 65536 in
theorem w_c35 : (Jvm.Cond.code ({ cls := "java/lang/AbstractStringBuilder", name := "length", desc := "()I" } : Jvm.MethodName) jdk_68_method_6_code (1 : Nat) (Option.some Jvm.ClassFile.FieldType.int)).before args0 about1 = true := code_word (m := ⟨13, 2⟩) (meth := k13m2) (c := k13c2) (by decide +kernel) rfl rfl rfl (by decide +kernel)
set_option maxRecDepth 65536 in
theorem w_c36 : (Jvm.Cond.code ({ cls := "java/lang/AbstractStringBuilder", name := "isLatin1", desc := "()Z" } : Jvm.MethodName) jdk_68_method_68_code (1 : Nat) (Option.some Jvm.ClassFile.FieldType.boolean)).before args0 about1 = true := code_word (m := ⟨13, 7⟩) (meth := k13m7) (c := k13c7) (by decide +kernel) rfl rfl rfl (by decide +kernel)
set_option maxRecDepth 65536 in
theorem w_c37 : (Jvm.Cond.code ({ cls := "java/util/Arrays", name := "copyOfRange", desc := "([BII)[B" } : Jvm.MethodName) jdk_65_method_132_code (3 : Nat) (Option.some (Jvm.ClassFile.FieldType.array Jvm.ClassFile.FieldType.byte))).before args0 about1 = true := code_word (m := ⟨18, 3⟩) (meth := k18m3) (c := k18c3) (by decide +kernel) rfl rfl rfl (by decide +kernel)
set_option maxRecDepth 65536 in
theorem w_c38 : (Jvm.Cond.code ({ cls := "java/util/Arrays", name := "copyOfRangeByte", desc := "([BII)[B" } : Jvm.MethodName) jdk_65_method_133_code (5 : Nat) (Option.some (Jvm.ClassFile.FieldType.array Jvm.ClassFile.FieldType.byte))).before args0 about1 = true := code_word (m := ⟨18, 4⟩) (meth := k18m4) (c := k18c4) (by decide +kernel) rfl rfl rfl (by decide +kernel)
set_option maxRecDepth 65536 in
theorem w_c39 : (Jvm.Cond.code ({ cls := "java/util/Arrays", name := "checkLength", desc := "(II)V" } : Jvm.MethodName) jdk_65_method_131_code (2 : Nat) (Option.none : Option Jvm.ClassFile.FieldType)).before args0 about1 = true := code_word (m := ⟨18, 2⟩) (meth := k18m2) (c := k18c2) (by decide +kernel) rfl rfl rfl (by decide +kernel)
set_option maxRecDepth 65536 in
theorem w_c40 : (Jvm.Cond.code ({ cls := "java/lang/Enum", name := "ordinal", desc := "()I" } : Jvm.MethodName) jdk_37_method_2_code (1 : Nat) (Option.some Jvm.ClassFile.FieldType.int)).before args0 about1 = true := code_word (m := ⟨10, 0⟩) (meth := k10m0) (c := k10c0) (by decide +kernel) rfl rfl rfl (by decide +kernel)
set_option maxRecDepth 65536 in
theorem w_c41 : (Jvm.Cond.code ({ cls := "java/lang/String", name := "equals", desc := "(Ljava/lang/Object;)Z" } : Jvm.MethodName) jdk_42_method_66_code (3 : Nat) (Option.some Jvm.ClassFile.FieldType.boolean)).before args0 about1 = true := code_word (m := ⟨7, 4⟩) (meth := k7m4) (c := k7c4) (by decide +kernel) rfl rfl rfl (by decide +kernel)
set_option maxRecDepth 65536 in
theorem w_c42 : (Jvm.Cond.code ({ cls := "java/lang/StringLatin1", name := "equals", desc := "([B[B)Z" } : Jvm.MethodName) jdk_43_method_13_code (3 : Nat) (Option.some Jvm.ClassFile.FieldType.boolean)).before args0 about1 = true := code_word (m := ⟨8, 2⟩) (meth := k8m2) (c := k8c2) (by decide +kernel) rfl rfl rfl (by decide +kernel)
def codes1 : List Jvm.Cond := [Jvm.Cond.code x code maxLocals ret, Jvm.Cond.code ({ cls := "java/lang/String", name := "valueOf", desc := "(C)Ljava/lang/String;" } : Jvm.MethodName) jdk_42_method_139_code (1 : Nat) (Option.some (Jvm.ClassFile.FieldType.object "java/lang/String")), Jvm.Cond.code ({ cls := "java/lang/StringLatin1", name := "canEncode", desc := "(C)Z" } : Jvm.MethodName) jdk_43_method_3_code (1 : Nat) (Option.some Jvm.ClassFile.FieldType.boolean), Jvm.Cond.code ({ cls := "java/lang/StringLatin1", name := "toBytes", desc := "(C)[B" } : Jvm.MethodName) jdk_43_method_46_code (1 : Nat) (Option.some (Jvm.ClassFile.FieldType.array Jvm.ClassFile.FieldType.byte)), Jvm.Cond.code ({ cls := "java/lang/String", name := "<init>", desc := "([BB)V" } : Jvm.MethodName) jdk_42_method_151_code (3 : Nat) (Option.none : Option Jvm.ClassFile.FieldType), Jvm.Cond.code ({ cls := "java/lang/Object", name := "<init>", desc := "()V" } : Jvm.MethodName) object_method_1_code (1 : Nat) (Option.none : Option Jvm.ClassFile.FieldType), Jvm.Cond.code ({ cls := x.cls, name := "expected", desc := "(ICCC)Ljava/lang/String;" } : Jvm.MethodName) method_4_code (6 : Nat) (Option.some (Jvm.ClassFile.FieldType.object "java/lang/String")), Jvm.Cond.code ({ cls := x.cls, name := "core", desc := "([CICCC)V" } : Jvm.MethodName) method_2_code (5 : Nat) (Option.none : Option Jvm.ClassFile.FieldType), Jvm.Cond.code ({ cls := "java/lang/String", name := "<init>", desc := "([C)V" } : Jvm.MethodName) jdk_42_method_3_code (2 : Nat) (Option.none : Option Jvm.ClassFile.FieldType), Jvm.Cond.code ({ cls := "java/lang/String", name := "<init>", desc := "([CIILjava/lang/Void;)V" } : Jvm.MethodName) jdk_42_method_149_code (6 : Nat) (Option.none : Option Jvm.ClassFile.FieldType), Jvm.Cond.code ({ cls := "java/lang/StringUTF16", name := "compress", desc := "([CII)[B" } : Jvm.MethodName) jdk_52_method_16_code (6 : Nat) (Option.some (Jvm.ClassFile.FieldType.array Jvm.ClassFile.FieldType.byte)), Jvm.Cond.code ({ cls := "java/lang/StringUTF16", name := "compress", desc := "([CI[BII)I" } : Jvm.MethodName) jdk_52_method_21_code (7 : Nat) (Option.some Jvm.ClassFile.FieldType.int), Jvm.Cond.code ({ cls := "java/lang/StringUTF16", name := "coderFromArrayLen", desc := "([BI)B" } : Jvm.MethodName) jdk_52_method_15_code (2 : Nat) (Option.some Jvm.ClassFile.FieldType.byte), Jvm.Cond.code ({ cls := x.cls, name := "head", desc := "([CCCC)V" } : Jvm.MethodName) method_3_code (4 : Nat) (Option.none : Option Jvm.ClassFile.FieldType), Jvm.Cond.code ({ cls := site_118.cls, name := "hql", desc := "(Ljava/lang/String;Ljava/lang/String;Ljava/lang/String;)Ljava/lang/String;" } : Jvm.MethodName) prog_1_method_6_code (5 : Nat) (Option.some (Jvm.ClassFile.FieldType.object "java/lang/String")), Jvm.Cond.code ({ cls := "java/lang/StringBuilder", name := "<init>", desc := "()V" } : Jvm.MethodName) jdk_67_method_1_code (1 : Nat) (Option.none : Option Jvm.ClassFile.FieldType), Jvm.Cond.code ({ cls := "java/lang/AbstractStringBuilder", name := "<init>", desc := "(I)V" } : Jvm.MethodName) jdk_68_method_2_code (2 : Nat) (Option.none : Option Jvm.ClassFile.FieldType), Jvm.Cond.code ({ cls := "java/lang/StringBuilder", name := "append", desc := "(Ljava/lang/String;)Ljava/lang/StringBuilder;" } : Jvm.MethodName) jdk_67_method_7_code (2 : Nat) (Option.some (Jvm.ClassFile.FieldType.object "java/lang/StringBuilder")), Jvm.Cond.code ({ cls := "java/lang/AbstractStringBuilder", name := "append", desc := "(Ljava/lang/String;)Ljava/lang/AbstractStringBuilder;" } : Jvm.MethodName) jdk_68_method_22_code (3 : Nat) (Option.some (Jvm.ClassFile.FieldType.object "java/lang/AbstractStringBuilder")), Jvm.Cond.code ({ cls := "java/lang/String", name := "length", desc := "()I" } : Jvm.MethodName) jdk_42_method_54_code (1 : Nat) (Option.some Jvm.ClassFile.FieldType.int), Jvm.Cond.code ({ cls := "java/lang/String", name := "coder", desc := "()B" } : Jvm.MethodName) jdk_42_method_152_code (1 : Nat) (Option.some Jvm.ClassFile.FieldType.byte), Jvm.Cond.code ({ cls := "java/lang/AbstractStringBuilder", name := "ensureCapacityInternal", desc := "(I)V" } : Jvm.MethodName) jdk_68_method_9_code (3 : Nat) (Option.none : Option Jvm.ClassFile.FieldType), Jvm.Cond.code ({ cls := "java/lang/AbstractStringBuilder", name := "putStringAt", desc := "(ILjava/lang/String;)V" } : Jvm.MethodName) jdk_68_method_73_code (3 : Nat) (Option.none : Option Jvm.ClassFile.FieldType), Jvm.Cond.code ({ cls := "java/lang/AbstractStringBuilder", name := "inflateIfNeededFor", desc := "(Ljava/lang/String;)V" } : Jvm.MethodName) jdk_68_method_71_code (2 : Nat) (Option.none : Option Jvm.ClassFile.FieldType), Jvm.Cond.code ({ cls := "java/lang/String", name := "getBytes", desc := "([BIB)V" } : Jvm.MethodName) jdk_42_method_147_code (4 : Nat) (Option.none : Option Jvm.ClassFile.FieldType), Jvm.Cond.code ({ cls := "java/lang/AbstractStringBuilder", name := "newCapacity", desc := "(I)I" } : Jvm.MethodName) jdk_68_method_10_code (6 : Nat) (Option.some Jvm.ClassFile.FieldType.int), Jvm.Cond.code ({ cls := "jdk/internal/util/ArraysSupport", name := "newLength", desc := "(III)I" } : Jvm.MethodName) jdk_48_method_27_code (4 : Nat) (Option.some Jvm.ClassFile.FieldType.int), Jvm.Cond.code ({ cls := "java/lang/Math", name := "max", desc := "(II)I" } : Jvm.MethodName) jdk_29_method_65_code (2 : Nat) (Option.some Jvm.ClassFile.FieldType.int), Jvm.Cond.code ({ cls := "java/util/Arrays", name := "copyOf", desc := "([BI)[B" } : Jvm.MethodName) jdk_65_method_121_code (3 : Nat) (Option.some (Jvm.ClassFile.FieldType.array Jvm.ClassFile.FieldType.byte)), Jvm.Cond.code ({ cls := "java/lang/Math", name := "min", desc := "(II)I" } : Jvm.MethodName) jdk_29_method_69_code (2 : Nat) (Option.some Jvm.ClassFile.FieldType.int), Jvm.Cond.code ({ cls := "java/lang/StringBuilder", name := "toString", desc := "()Ljava/lang/String;" } : Jvm.MethodName) jdk_67_method_42_code (1 : Nat) (Option.some (Jvm.ClassFile.FieldType.object "java/lang/String")), Jvm.Cond.code ({ cls := "java/lang/String", name := "<init>", desc := "(Ljava/lang/StringBuilder;)V" } : Jvm.MethodName) jdk_42_method_53_code (2 : Nat) (Option.none : Option Jvm.ClassFile.FieldType), Jvm.Cond.code ({ cls := "java/lang/String", name := "<init>", desc := "(Ljava/lang/AbstractStringBuilder;Ljava/lang/Void;)V" } : Jvm.MethodName) jdk_42_method_150_code (5 : Nat) (Option.none : Option Jvm.ClassFile.FieldType), Jvm.Cond.code ({ cls := "java/lang/AbstractStringBuilder", name := "getValue", desc := "()[B" } : Jvm.MethodName) jdk_68_method_64_code (1 : Nat) (Option.some (Jvm.ClassFile.FieldType.array Jvm.ClassFile.FieldType.byte)), Jvm.Cond.code ({ cls := "java/lang/StringBuilder", name := "length", desc := "()I" } : Jvm.MethodName) jdk_67_method_93_code (1 : Nat) (Option.some Jvm.ClassFile.FieldType.int), Jvm.Cond.code ({ cls := "java/lang/AbstractStringBuilder", name := "length", desc := "()I" } : Jvm.MethodName) jdk_68_method_6_code (1 : Nat) (Option.some Jvm.ClassFile.FieldType.int), Jvm.Cond.code ({ cls := "java/lang/AbstractStringBuilder", name := "isLatin1", desc := "()Z" } : Jvm.MethodName) jdk_68_method_68_code (1 : Nat) (Option.some Jvm.ClassFile.FieldType.boolean), Jvm.Cond.code ({ cls := "java/util/Arrays", name := "copyOfRange", desc := "([BII)[B" } : Jvm.MethodName) jdk_65_method_132_code (3 : Nat) (Option.some (Jvm.ClassFile.FieldType.array Jvm.ClassFile.FieldType.byte)), Jvm.Cond.code ({ cls := "java/util/Arrays", name := "copyOfRangeByte", desc := "([BII)[B" } : Jvm.MethodName) jdk_65_method_133_code (5 : Nat) (Option.some (Jvm.ClassFile.FieldType.array Jvm.ClassFile.FieldType.byte)), Jvm.Cond.code ({ cls := "java/util/Arrays", name := "checkLength", desc := "(II)V" } : Jvm.MethodName) jdk_65_method_131_code (2 : Nat) (Option.none : Option Jvm.ClassFile.FieldType), Jvm.Cond.code ({ cls := "java/lang/Enum", name := "ordinal", desc := "()I" } : Jvm.MethodName) jdk_37_method_2_code (1 : Nat) (Option.some Jvm.ClassFile.FieldType.int), Jvm.Cond.code ({ cls := "java/lang/String", name := "equals", desc := "(Ljava/lang/Object;)Z" } : Jvm.MethodName) jdk_42_method_66_code (3 : Nat) (Option.some Jvm.ClassFile.FieldType.boolean), Jvm.Cond.code ({ cls := "java/lang/StringLatin1", name := "equals", desc := "([B[B)Z" } : Jvm.MethodName) jdk_43_method_13_code (3 : Nat) (Option.some Jvm.ClassFile.FieldType.boolean)]
set_option maxRecDepth 65536 in
theorem codes_eq : words1.filter isCode = codes1 := rfl
theorem w_codes : ∀ c ∈ words1.filter isCode, c.before args0 about1 = true := by
  rw [codes_eq]
  intro c hc
  simp only [codes1, List.mem_cons, List.not_mem_nil, or_false] at hc
  rcases hc with rfl | rfl | rfl | rfl | rfl | rfl | rfl | rfl | rfl | rfl | rfl | rfl | rfl | rfl | rfl | rfl | rfl | rfl | rfl | rfl | rfl | rfl | rfl | rfl | rfl | rfl | rfl | rfl | rfl | rfl | rfl | rfl | rfl | rfl | rfl | rfl | rfl | rfl | rfl | rfl | rfl | rfl | rfl
  · exact w_c0
  · exact w_c1
  · exact w_c2
  · exact w_c3
  · exact w_c4
  · exact w_c5
  · exact w_c6
  · exact w_c7
  · exact w_c8
  · exact w_c9
  · exact w_c10
  · exact w_c11
  · exact w_c12
  · exact w_c13
  · exact w_c14
  · exact w_c15
  · exact w_c16
  · exact w_c17
  · exact w_c18
  · exact w_c19
  · exact w_c20
  · exact w_c21
  · exact w_c22
  · exact w_c23
  · exact w_c24
  · exact w_c25
  · exact w_c26
  · exact w_c27
  · exact w_c28
  · exact w_c29
  · exact w_c30
  · exact w_c31
  · exact w_c32
  · exact w_c33
  · exact w_c34
  · exact w_c35
  · exact w_c36
  · exact w_c37
  · exact w_c38
  · exact w_c39
  · exact w_c40
  · exact w_c41
  · exact w_c42
set_option maxRecDepth 65536 in
theorem w_t1 : (words1.take 24).all (fun c => isCode c || c.before args0 about1) = true := by decide +kernel
set_option maxRecDepth 65536 in
theorem w_t2 : ((words1.drop 24).take 24).all (fun c => isCode c || c.before args0 about1) = true := by decide +kernel
set_option maxRecDepth 65536 in
theorem w_t3 : (((words1.drop 24).drop 24).take 24).all (fun c => isCode c || c.before args0 about1) = true := by decide +kernel
set_option maxRecDepth 65536 in
theorem w_t4 : ((((words1.drop 24).drop 24).drop 24).take 24).all (fun c => isCode c || c.before args0 about1) = true := by decide +kernel
set_option maxRecDepth 65536 in
theorem w_t5 : (((((words1.drop 24).drop 24).drop 24).drop 24).take 24).all (fun c => isCode c || c.before args0 about1) = true := by decide +kernel
set_option maxRecDepth 65536 in
theorem w_t6 : ((((((words1.drop 24).drop 24).drop 24).drop 24).drop 24).take 24).all (fun c => isCode c || c.before args0 about1) = true := by decide +kernel
set_option maxRecDepth 65536 in
theorem w_t7 : (((((((words1.drop 24).drop 24).drop 24).drop 24).drop 24).drop 24).take 24).all (fun c => isCode c || c.before args0 about1) = true := by decide +kernel
set_option maxRecDepth 65536 in
theorem w_t8 : ((((((((words1.drop 24).drop 24).drop 24).drop 24).drop 24).drop 24).drop 24).take 24).all (fun c => isCode c || c.before args0 about1) = true := by decide +kernel
set_option maxRecDepth 65536 in
theorem w_t9 : (((((((((words1.drop 24).drop 24).drop 24).drop 24).drop 24).drop 24).drop 24).drop 24).take 24).all (fun c => isCode c || c.before args0 about1) = true := by decide +kernel
set_option maxRecDepth 65536 in
theorem w_t10 : (((((((((words1.drop 24).drop 24).drop 24).drop 24).drop 24).drop 24).drop 24).drop 24).drop 24).all (fun c => isCode c || c.before args0 about1) = true := by decide +kernel
theorem w_tables : (allAtoms (Jvm.Cond.code x code maxLocals ret :: tables_1)).before args0 about1 = true := by
  rw [allAtoms_all]
  show words1.all (fun c => c.before args0 about1) = true
  refine all_split ?_ w_codes
  rw [← List.take_append_drop 24 words1, List.all_append, w_t1, ← List.take_append_drop 24 (words1.drop 24), List.all_append, w_t2, ← List.take_append_drop 24 ((words1.drop 24).drop 24), List.all_append, w_t3, ← List.take_append_drop 24 (((words1.drop 24).drop 24).drop 24), List.all_append, w_t4, ← List.take_append_drop 24 ((((words1.drop 24).drop 24).drop 24).drop 24), List.all_append, w_t5, ← List.take_append_drop 24 (((((words1.drop 24).drop 24).drop 24).drop 24).drop 24), List.all_append, w_t6, ← List.take_append_drop 24 ((((((words1.drop 24).drop 24).drop 24).drop 24).drop 24).drop 24), List.all_append, w_t7, ← List.take_append_drop 24 (((((((words1.drop 24).drop 24).drop 24).drop 24).drop 24).drop 24).drop 24), List.all_append, w_t8, ← List.take_append_drop 24 ((((((((words1.drop 24).drop 24).drop 24).drop 24).drop 24).drop 24).drop 24).drop 24), List.all_append, w_t9, w_t10]
  rfl
set_option maxRecDepth 65536 in
theorem w_rest : rest_1_c.before args0 about1 = true := by decide +kernel
set_option maxRecDepth 65536 in
theorem w_case : (Jvm.Cond.and given_1 narrow_1).before args0 about1 = true := by decide +kernel
set_option maxRecDepth 65536 in
theorem w_consts : constsHeld consts_1 about1 := Jvm.Lit.constsHeldB_iff.mp (by decide +kernel)
theorem w_applies : (headSpec (Jvm.Cond.code x code maxLocals ret :: tables_1) room_1).applies x e0.platform about1 = true :=
  (Spec.applies_iff w_frames).mpr ⟨w_running, w_runnable, w_alone, w_named, w_hears, w_ripe, w_room, w_tables⟩
theorem atStart : AtStart classFile x code maxLocals ret World_1 tables_1 room_1 Calls_1 rest_1 Pre_1 launch0 p0 e0 about1 theMethod args0 below0 :=
  ⟨lists_1, trivial, launch0.admits_env _ _ _, launch0.least_env, fairChoices_fair.cas, fairChoices_fair.clock, w_frames, w_args, w_heap, w_applies, ⟨w_consts, trivial⟩, w_rest, w_case⟩
end start1
theorem witness_1 : WitnessClaimed_1 := ⟨start1.p0, start1.e0, start1.about1, start1.theMethod, start1.args0, start1.below0, start1.atStart⟩
end Jvm.Pilot.@@N@@
