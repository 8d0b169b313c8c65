import JvmDerived
import JvmDerived.Pilot.@@N@@Statement
import JvmDerived.Pilot.@@N@@Code
set_option linter.unusedVariables false
set_option linter.unusedSimpArgs false
namespace Jvm.Pilot.@@N@@
open Jvm Jvm.ClassFile Sem Op Lib Jvm.Free Jvm.Stand Jvm.LawKit Jvm.RoadKit Bundle Jvm.Pilot.@@N@@.Jvm.D
section OwnKit
variable {p : Program} {l : Launch} {e : Env} {R : Room} {s : State} {m : MethodId} {args : Array Value} {below : List Frame} {meth : Method} {c : Code} {T : State} {locs : List Loc} {cells slots : Nat}
def own_G (tb : Tables) (e : Env) (below : List Frame) (s : State) (Q : Option Value → Heap → List Loc → Prop) (k n : Nat) (A : State) : Prop :=
  ∃ u o, Steps tb e below A u ∧ u.status = .running ∧ Ended u below o ∧ ∃ v L, o = Outcome.returned v ∧ Q v u.heap L ∧ FrameEnd s o u L k n
theorem own_go {tb : Tables} {Q : Option Value → Heap → List Loc → Prop} {k n : Nat} {A B : State} (h : ∀ t, Steps tb e below B t → Steps tb e below A t) (g : own_G tb e below s Q k n B) : own_G tb e below s Q k n A := by
  obtain ⟨u, o, h1, r⟩ := g; exact ⟨u, o, h u h1, r⟩
theorem own_ret (X : Stand p l e R s m args below meth c T locs cells slots) (hx : p.tables.exec = Jvm.exec) {pc : Nat} {Ls : Array Slot} {w : Value} {t : FieldType} {i : Instr} {rest : List Value} (hret : meth.sig.returnType = some t) (hn : narrow t w = w)
    (hi : (i = .ireturn ∧ (t = .int ∨ t = .boolean ∨ t = .byte ∨ t = .char ∨ t = .short) ∧ ∃ z, w = .int z) ∨ (i = .lreturn ∧ t = .long ∧ ∃ z, w = .long z) ∨ (i = .dreturn ∧ t = .double ∧ ∃ z, w = .double z) ∨ (i = .freturn ∧ t = .float ∧ ∃ z, w = .float z) ∨ (i = .areturn ∧ t.isReference = true ∧ w.isRef = true))
    (hd : decode c.code pc = .ok (i, 1)) (hlocks : meth.locks = false) {Q : Option Value → Heap → List Loc → Prop} {k n : Nat} (hQ : Q (some w) T.heap locs) (hk : cells ≤ k) (hs : slots ≤ n) : own_G p.tables e below s Q k n (T.setTop (mkF m pc Ls (w :: rest))) := by
  obtain ⟨fs, hr, hrun, hended, hW, hsame⟩ := X.leave (v := some w) (fun h => by rw [hret] at h; cases h) hlocks
  exact ⟨_, _, retOut X hx hret hn hi hd hr, hrun, hended, _, _, rfl, hQ, ⟨_, rfl⟩, hW, hsame.mono hk hs⟩
theorem own_retV (X : Stand p l e R s m args below meth c T locs cells slots) (hx : p.tables.exec = Jvm.exec) {pc : Nat} {Ls : Array Slot} (hret : meth.sig.returnType = none)
    (hd : decode c.code pc = .ok (.return_, 1)) (hlocks : meth.locks = false) {Q : Option Value → Heap → List Loc → Prop} {k n : Nat} (hQ : Q none T.heap locs) (hk : cells ≤ k) (hs : slots ≤ n) : own_G p.tables e below s Q k n (T.setTop (mkF m pc Ls [])) := by
  obtain ⟨fs, hr, hrun, hended, hW, hsame⟩ := X.leave (v := none) (fun _ => rfl) hlocks
  exact ⟨_, _, X.returnOut hx hret hd hr, hrun, hended, _, _, rfl, hQ, ⟨_, rfl⟩, hW, hsame.mono hk hs⟩
def own_Met (l : Launch) (Z : State) (y : MethodName) (bytes : ByteArray) (maxL : Nat) (ret : Option FieldType) (ws : List Jvm.Cond) (rm : Room) (as' : Array Value) (h0 : Heap) (Q : Option Value → Heap → List Loc → Prop) : Prop :=
  MetFree l y (head1 (Jvm.Cond.code y bytes maxL ret :: ws) rm) (fun a U => a = as' ∧ Z.Warmed39 U.vm ∧ U.heap = h0) (fun _ _ _ _ _ => True) (fun _ U o U' => ∃ v L, o = .returned v ∧ Q v U'.heap L ∧ FrameEnd U o U' L rm.cells rm.slots)
theorem own_body {l : Launch} {Z : State} {y : MethodName} {bytes : ByteArray} {maxL : Nat} {ret : Option FieldType} {ws : List Jvm.Cond} {rm : Room} {as' : Array Value} {h0 : Heap} {Q : Option Value → Heap → List Loc → Prop} (hp : plainFor y = true)
    (H : ∀ (p : Program) (e : Env) (s : State) (m : MethodId) (below : List Frame) (meth : Method) (c : Code) (s₁ : State), p.tables.exec = Jvm.exec → c.code = bytes → c.maxLocals = maxL → s.vm.findClass y.cls = some m.cls → meth.name = y.name → meth.locks = false → meth.sig.returnType = ret → Z.Warmed39 s.vm → Stand p l e rm s m as' below meth c s₁ [] 0 0 → s₁.heap = h0 →
      own_G p.tables e below s Q rm.cells rm.slots (s₁.setTop (entryFrame m as' maxL))) : own_Met l Z y bytes maxL ret ws rm as' h0 Q := by
  refine MetFree.of_bodySF hp hisR ?_
  intro p e s m args below meth c s₁ Bd hml0 hP hK
  obtain ⟨rfl, hZ, hh⟩ := hP
  exact H p e s m below meth c s₁ Bd.exec Bd.bytes hml0 (findClass_of_methodNamed Bd.named) (name_of_methodNamed Bd.named Bd.method).1 (BodyLoose.notSynchronized Bd) Bd.returns hZ (Stand.of_body Bd) (by rw [← hh, Bd.state]; rfl)
theorem own_back {Z : State} {a0 : Array Value} {h : Heap} {y : MethodName} {bytes : ByteArray} {maxL : Nat} {ret : Option FieldType} {rm : Room} {len W : Nat} {as' : Array Value} {Q : Option Value → Heap → List Loc → Prop} (hM : own_Met l Z y bytes maxL ret [] rm as' h Q)
    (hZ : Z.Warmed39 s.vm) (wc : (Jvm.Cond.code y bytes maxL ret).before a0 Z = true) (wz : (Jvm.Cond.initialized y.cls).before a0 Z = true) (hf : rm.frames + 1 ≤ R.frames) (hl : W + (maxL + 11) + rm.locals ≤ R.locals) :
    Back l R p e below s args y len W (fun A a => a = as' ∧ A.U.heap = h ∧ A.cells + rm.cells ≤ R.cells ∧ A.slots + rm.slots ≤ R.slots) (fun A _ v B => ∃ L, Q v B.U.heap L ∧ B.locs = A.locs ++ L ∧ B.cells = A.cells + rm.cells ∧ B.slots = A.slots + rm.slots) :=
  backOf (Q := Q) hM hZ wc wz hf hl
theorem own_xt {h0 h h' : Heap} (E : Ext h0 h) (F : Ext h h') : Ext h0 h' := ⟨Nat.le_trans E.1 F.1, fun a c q => F.2 a c (E.2 a c q)⟩
theorem own_xr (h : Heap) : Ext h h := ⟨Nat.le_refl _, fun _ _ q => q⟩
theorem own_xw {h0 h h' : Heap} {a : Addr} {sl : Nat} {v : Value} (E : Ext h0 h) (W : Wr h h' a sl v) (q : h0.size ≤ a) : Ext h0 h' := by
  have K := (Keep.of_wr W)
  exact ⟨Nat.le_trans E.1 K.1, fun x c r => K.2.1 x c (E.2 x c r) fun z => by
    cases List.mem_singleton.mp z
    exact absurd (Array.getElem?_eq_some_iff.mp r).1 (Nat.not_lt.mpr q)⟩
theorem own_fI {Z : State} {args : Array Value} {t : Term} {F fn fd : String} {a : Addr} {k : Int32} (ev : t.eval args Z none [] Z = some (.ref a)) (h : (Cond.eq (Term.field t F fn fd) (Term.int k)).value args Z none Z [] = some true) : Fld Z Z.heap a F fn fd (.int k) := by
  obtain ⟨x, y, h1, h2, h3, h4⟩ := cmp_v (Or.inl h)
  rw [fld_at ev] at h1
  cases (Term.int_eval k).symm.trans h2
  obtain ⟨z, rfl⟩ := h4
  have e1 : (Term.field t F fn fd).eval args Z none [] Z = some (.int z) := (fld_at ev).trans h1
  simp only [Cond.value, e1, Term.int_eval] at h
  have hz : z = k := by simpa using h
  subst hz
  exact Fld.start h1
theorem own_fJ {Z : State} {args : Array Value} {t : Term} {F fn fd : String} {a : Addr} {k : Int64} (ev : t.eval args Z none [] Z = some (.ref a)) (h : (Cond.eq (Term.field t F fn fd) (Term.long k)).value args Z none Z [] = some true) : Fld Z Z.heap a F fn fd (.long k) := by
  obtain ⟨x, y, h1, h2, h3, h4⟩ := cmp_v (Or.inl h)
  rw [fld_at ev] at h1
  cases (long_at k).symm.trans h2
  obtain ⟨z, rfl⟩ := h4
  have e1 : (Term.field t F fn fd).eval args Z none [] Z = some (.long z) := (fld_at ev).trans h1
  have hz := gotT (eq_L e1 (long_at k)) h
  subst hz
  exact Fld.start h1
theorem own_len {Z : State} {args : Array Value} {t : Term} {a : Addr} {cl : Cell} {ty : FieldType} {k : Int32} (ev : t.eval args Z none [] Z = some (.ref a)) (A : Arr Z Z.heap a cl ty) (h : (Cond.eq (Term.length t) (Term.int k)).value args Z none Z [] = some true) : cl.slots.size < 2 ^ 31 ∧ cl.slots.size.toInt32 = k := by
  have ha := Arr.fin (Vm.Alike.refl _) A
  obtain ⟨x, y, h1, h2, h3, h4⟩ := cmp_v (Or.inl h)
  by_cases hl : cl.slots.size < 2 ^ 31
  · have e1 := len_f (o := none) (idx := []) (first := Z) (args := args) ev ha hl
    simp only [Cond.value, e1, Term.int_eval] at h
    exact ⟨hl, by simpa using h⟩
  · simp [Term.eval, ev, ha, hl] at h1
theorem own_elV {Z : State} {args : Array Value} {t u : Term} {a : Addr} {cl : Cell} {k : Int32} {v : Value} {i : Nat} (ev : t.eval args Z none [] Z = some (.ref a)) (hc : Z.heap[a]? = some cl) (hu : u.eval args Z none [] Z = some v) (h : (Cond.eq (Term.elem t (Term.int k)) u).value args Z none Z [] = some true) (hk : k.toNatClampNeg = i) : cl.slots[i]? = some v := by
  obtain ⟨x, y, h1, h2, h3, h4⟩ := cmp_v (Or.inl h)
  cases hu.symm.trans h2
  have q := (elem_in h1 ev (Term.int_eval k) hc).2
  rw [hk] at q
  rw [q]
  simp only [Cond.value, h1, hu] at h
  cases x <;> cases v <;> simp_all [Kin, Value.isRef]
theorem own_ne {Z : State} {h : Heap} {a b : Addr} {C n d : String} {k j : Int32} (F : Fld Z h a C n d (.int k)) (G : Fld Z h b C n d (.int j)) (q : k ≠ j) : a ≠ b := Fld.ne F G (fun e => q (Value.int.inj e))
theorem own_rem {x n : Int32} (h0 : 0 ≤ x.toInt) (h1 : 0 < n.toInt) : 0 ≤ (x % n).toInt ∧ (x % n).toInt < n.toInt := by
  have := (c_iremV x n).1 h0 h1; exact ⟨this.1, this.2.1⟩
theorem own_msk (x : Int32) : 0 ≤ (x &&& (2147483647 : Int32)).toInt := (c_and x 2147483647 (by decide)).1
end OwnKit
def own_W (Z : State) (A : Nat → Addr) : Prop := Sta Z Z.heap "com/example/oblate/oblate/Frame" "GEODETIC" "Lcom/example/oblate/oblate/Frame;" (.ref (A 0)) ∧ Exa Z Z.heap (A 0) "com/example/oblate/oblate/Frame$1" ∧ Sta Z Z.heap "com/example/oblate/oblate/Frame" "NED" "Lcom/example/oblate/oblate/Frame;" (.ref (A 1)) ∧ Exa Z Z.heap (A 1) "com/example/oblate/oblate/Frame$2" ∧ Sta Z Z.heap "com/example/oblate/oblate/Frame" "AER" "Lcom/example/oblate/oblate/Frame;" (.ref (A 2)) ∧ Exa Z Z.heap (A 2) "com/example/oblate/oblate/Frame$3" ∧ Sta Z Z.heap "com/example/oblate/oblate/Frame" "ECEF" "Lcom/example/oblate/oblate/Frame;" (.ref (A 3)) ∧ Exa Z Z.heap (A 3) "com/example/oblate/oblate/Frame" ∧ Sta Z Z.heap "com/example/oblate/oblate/Frame" "ENU" "Lcom/example/oblate/oblate/Frame;" (.ref (A 4)) ∧ Exa Z Z.heap (A 4) "com/example/oblate/oblate/Frame" ∧ Fld Z Z.heap (A 0) "com/example/oblate/oblate/Frame" "local" "Z" (.int (0 : Int32)) ∧ Fld Z Z.heap (A 1) "com/example/oblate/oblate/Frame" "local" "Z" (.int (1 : Int32)) ∧ Fld Z Z.heap (A 2) "com/example/oblate/oblate/Frame" "local" "Z" (.int (1 : Int32)) ∧ Fld Z Z.heap (A 3) "com/example/oblate/oblate/Frame" "local" "Z" (.int (0 : Int32)) ∧ Fld Z Z.heap (A 4) "com/example/oblate/oblate/Frame" "local" "Z" (.int (1 : Int32))
theorem own_c5 (x : Int32) : ((x &&& (2147483647 : Int32)) % (5 : Int32)) = (0 : Int32) ∨ ((x &&& (2147483647 : Int32)) % (5 : Int32)) = (1 : Int32) ∨ ((x &&& (2147483647 : Int32)) % (5 : Int32)) = (2 : Int32) ∨ ((x &&& (2147483647 : Int32)) % (5 : Int32)) = (3 : Int32) ∨ ((x &&& (2147483647 : Int32)) % (5 : Int32)) = (4 : Int32) := by
  have h := own_rem (n := (5 : Int32)) (own_msk x) (by decide)
  generalize ((x &&& (2147483647 : Int32)) % (5 : Int32)) = i at h ⊢
  have hn : ((5 : Int32)).toInt = 5 := by decide
  rw [hn] at h
  rcases (by omega : i.toInt = 0 ∨ i.toInt = 1 ∨ i.toInt = 2 ∨ i.toInt = 3 ∨ i.toInt = 4) with q | q | q | q | q
  · exact Or.inl (Int32.toInt_inj.mp (q.trans (by decide : (0 : Int) = ((0 : Int32)).toInt)))
  · exact Or.inr (Or.inl (Int32.toInt_inj.mp (q.trans (by decide : (1 : Int) = ((1 : Int32)).toInt))))
  · exact Or.inr (Or.inr (Or.inl (Int32.toInt_inj.mp (q.trans (by decide : (2 : Int) = ((2 : Int32)).toInt)))))
  · exact Or.inr (Or.inr (Or.inr (Or.inl (Int32.toInt_inj.mp (q.trans (by decide : (3 : Int) = ((3 : Int32)).toInt))))))
  · exact Or.inr (Or.inr (Or.inr (Or.inr ((Int32.toInt_inj.mp (q.trans (by decide : (4 : Int) = ((4 : Int32)).toInt)))))))
theorem pn_0 : plainName "com/example/oblate/oblate/FrameNeedsReferencePinLaw" = true := by first | (simp [plainName, overriddenIn]; done) | decide +kernel
theorem ef_0 (m : MethodId) (x0 : Int32) (x1 : Int32) : entryFrame m #[(.int x0), (.int x1)] maxLocals = mkF m 0 #[.val (.int x0), .val (.int x1), .unset, .unset, .unset] [] := by first | (simp [entryFrame, mkF, argsToLocals, Value.category, maxLocals]; done) | rfl
theorem ef_1 (m : MethodId) (x0 : Int32) : entryFrame m #[(.int x0)] 1 = mkF m 0 #[.val (.int x0)] [] := by first | (simp [entryFrame, mkF, argsToLocals, Value.category]; done) | rfl
theorem d1_0 : decode method_3_code 0 = .ok (.iload_n 0, 1) := by decide +kernel
theorem d1_1 : decode method_3_code 1 = .ok (.iconst 2, 1) := by decide +kernel
theorem d1_2 : decode method_3_code 2 = .ok (.if_icmp .lt 7, 3) := by decide +kernel
theorem d1_9 : decode method_3_code 9 = .ok (.iconst 0, 1) := by decide +kernel
theorem d1_10 : decode method_3_code 10 = .ok (.ireturn, 1) := by decide +kernel
theorem pd_0 : parseMethodDescriptor "(I)Z" = some ⟨[.int], some .boolean⟩ := by decide +kernel
theorem ef_2 (m : MethodId) (x0 : Int32) : entryFrame m #[(.int x0)] 1 = mkF m 0 #[.val (.int x0)] [] := by first | (simp [entryFrame, mkF, argsToLocals, Value.category]; done) | rfl
theorem d2_0 : decode method_2_code 0 = .ok (.iload_n 0, 1) := by decide +kernel
theorem d2_1 : decode method_2_code 1 = .ok (.ifCond .ne 7, 3) := by decide +kernel
theorem d2_4 : decode method_2_code 4 = .ok (.getstatic 7, 3) := by decide +kernel
theorem d2_7 : decode method_2_code 7 = .ok (.areturn, 1) := by decide +kernel
theorem pd_1 : parseMethodDescriptor "(I)Lcom/example/oblate/oblate/Frame;" = some ⟨[.int], some (.object "com/example/oblate/oblate/Frame")⟩ := by decide +kernel
theorem pn_1 : plainName "com/example/oblate/oblate/Frame" = true := by first | (simp [plainName, overriddenIn]; done) | decide +kernel
theorem ef_3 (m : MethodId) (x0 : Addr) (x1 : Addr) : entryFrame m #[(.ref x0), (.ref x1)] 2 = mkF m 0 #[.val (.ref x0), .val (.ref x1)] [] := by first | (simp [entryFrame, mkF, argsToLocals, Value.category]; done) | rfl
theorem d3_0 : decode prog_11_method_8_code 0 = .ok (.aload_n 0, 1) := by decide +kernel
theorem d3_1 : decode prog_11_method_8_code 1 = .ok (.getfield 38, 3) := by decide +kernel
theorem d3_4 : decode prog_11_method_8_code 4 = .ok (.ifCond .ne 10, 3) := by decide +kernel
theorem d3_7 : decode prog_11_method_8_code 7 = .ok (.aload_n 1, 1) := by decide +kernel
theorem d3_8 : decode prog_11_method_8_code 8 = .ok (.getfield 38, 3) := by decide +kernel
theorem d3_11 : decode prog_11_method_8_code 11 = .ok (.ifCond .eq 7, 3) := by decide +kernel
theorem d3_18 : decode prog_11_method_8_code 18 = .ok (.iconst 0, 1) := by decide +kernel
theorem d3_19 : decode prog_11_method_8_code 19 = .ok (.ireturn, 1) := by decide +kernel
theorem pd_2 : parseMethodDescriptor "(Lcom/example/oblate/oblate/Frame;)Z" = some ⟨[(.object "com/example/oblate/oblate/Frame")], some .boolean⟩ := by decide +kernel
theorem d2_8 : decode method_2_code 8 = .ok (.iload_n 0, 1) := by decide +kernel
theorem d2_9 : decode method_2_code 9 = .ok (.iconst 1, 1) := by decide +kernel
theorem d2_10 : decode method_2_code 10 = .ok (.if_icmp .ne 7, 3) := by decide +kernel
theorem d2_13 : decode method_2_code 13 = .ok (.getstatic 13, 3) := by decide +kernel
theorem d2_16 : decode method_2_code 16 = .ok (.areturn, 1) := by decide +kernel
theorem d1_5 : decode method_3_code 5 = .ok (.iconst 1, 1) := by decide +kernel
theorem d1_6 : decode method_3_code 6 = .ok (.goto 4, 3) := by decide +kernel
theorem d2_17 : decode method_2_code 17 = .ok (.iload_n 0, 1) := by decide +kernel
theorem d2_18 : decode method_2_code 18 = .ok (.iconst 2, 1) := by decide +kernel
theorem d2_19 : decode method_2_code 19 = .ok (.if_icmp .ne 7, 3) := by decide +kernel
theorem d2_22 : decode method_2_code 22 = .ok (.getstatic 16, 3) := by decide +kernel
theorem d2_25 : decode method_2_code 25 = .ok (.areturn, 1) := by decide +kernel
theorem d3_14 : decode prog_11_method_8_code 14 = .ok (.iconst 1, 1) := by decide +kernel
theorem d3_15 : decode prog_11_method_8_code 15 = .ok (.goto 4, 3) := by decide +kernel
theorem d2_26 : decode method_2_code 26 = .ok (.iload_n 0, 1) := by decide +kernel
theorem d2_27 : decode method_2_code 27 = .ok (.iconst 3, 1) := by decide +kernel
theorem d2_28 : decode method_2_code 28 = .ok (.if_icmp .ne 7, 3) := by decide +kernel
theorem d2_31 : decode method_2_code 31 = .ok (.getstatic 19, 3) := by decide +kernel
theorem d2_34 : decode method_2_code 34 = .ok (.areturn, 1) := by decide +kernel
theorem d2_35 : decode method_2_code 35 = .ok (.getstatic 22, 3) := by decide +kernel
theorem d2_38 : decode method_2_code 38 = .ok (.areturn, 1) := by decide +kernel
set_option maxRecDepth 65536 in
set_option maxHeartbeats 40000000 in
theorem rm1_0 (l : Launch) (Z : State) (a0 : Array Value) (hw : ∀ d ∈ tables_1, d.before a0 Z = true) (ws : List Jvm.Cond)  (A : Nat → Addr) (hW : own_W Z A) (h0 : Heap) (x0 : Ext Z.heap h0)  :
    own_Met l Z (⟨"com/example/oblate/oblate/FrameNeedsReferencePinLaw", "isLocalByDoc", "(I)Z"⟩ : MethodName) method_3_code 1 (some .boolean) ws ({ frames := 0, cells := 0, slots := 0, locals := 0 } : Room) #[(.int (0 : Int32))] h0 (fun v_ h_ L_ => v_ = some (.int (0 : Int32)) ∧ Fr Z.heap.size L_ ∧ h_ = h0) := by
  refine own_body (plainFor_of_name pn_0) fun p e s m below meth c s₁ hx hby hml hown hnm hlk hrt hZ X0 e0 => ?_
  have N0 := Fr.nil Z.heap.size
  have hW' := hW
  obtain ⟨-, -, -, -, -, -, -, -, -, -, -, -, -, -, -⟩ := hW'
  refine own_go (B := s₁.setTop (mkF m 0 #[.val (.int (0 : Int32))] [])) (fun t k => castTop (ef_1 m (0 : Int32)) k) ?_
  refine own_go (B := s₁.setTop (mkF m 1 #[.val (.int (0 : Int32))] [(.int (0 : Int32))])) (fun _ k => XS.iloadN X0.here hx rfl (hb hby d1_0) rfl k) ?_
  refine own_go (B := s₁.setTop (mkF m 2 #[.val (.int (0 : Int32))] [(.int (2 : Int32)), (.int (0 : Int32))])) (fun _ k => XT.iconstV X0.here hx rfl (2 : Int32) (hb hby d1_1) rfl k) ?_
  refine own_go (B := s₁.setTop (mkF m 9 #[.val (.int (0 : Int32))] [])) (fun _ k => XS.icmpYes X0.here hx rfl (pc0 := 2) (pc' := 9) rfl (hb hby d1_2) rfl (by decide) (by decide) (by decide) k) ?_
  refine own_go (B := s₁.setTop (mkF m 10 #[.val (.int (0 : Int32))] [(.int (0 : Int32))])) (fun _ k => XT.iconstV X0.here hx rfl (0 : Int32) (hb hby d1_9) rfl k) ?_
  exact own_ret X0 hx (t := .boolean) hrt rfl (Or.inl ⟨rfl, by simp, _, rfl⟩) (hb hby d1_10) hlk ⟨rfl, N0, e0⟩ (by decide) (by decide)
set_option maxRecDepth 65536 in
set_option maxHeartbeats 40000000 in
theorem rm2_0 (l : Launch) (Z : State) (a0 : Array Value) (hw : ∀ d ∈ tables_1, d.before a0 Z = true) (ws : List Jvm.Cond)  (A : Nat → Addr) (hW : own_W Z A) (h0 : Heap) (x0 : Ext Z.heap h0)  :
    own_Met l Z (⟨"com/example/oblate/oblate/FrameNeedsReferencePinLaw", "pick", "(I)Lcom/example/oblate/oblate/Frame;"⟩ : MethodName) method_2_code 1 (some (.object "com/example/oblate/oblate/Frame")) ws ({ frames := 0, cells := 0, slots := 0, locals := 0 } : Room) #[(.int (0 : Int32))] h0 (fun v_ h_ L_ => v_ = some (.ref (A 0)) ∧ Fr Z.heap.size L_ ∧ h_ = h0) := by
  refine own_body (plainFor_of_name pn_0) fun p e s m below meth c s₁ hx hby hml hown hnm hlk hrt hZ X0 e0 => ?_
  have N0 := Fr.nil Z.heap.size
  have hW' := hW
  obtain ⟨S_GEODETIC, -, -, -, -, -, -, -, -, -, -, -, -, -, -⟩ := hW'
  refine own_go (B := s₁.setTop (mkF m 0 #[.val (.int (0 : Int32))] [])) (fun t k => castTop (ef_2 m (0 : Int32)) k) ?_
  refine own_go (B := s₁.setTop (mkF m 1 #[.val (.int (0 : Int32))] [(.int (0 : Int32))])) (fun _ k => XS.iloadN X0.here hx rfl (hb hby d2_0) rfl k) ?_
  refine own_go (B := s₁.setTop (mkF m 4 #[.val (.int (0 : Int32))] [])) (fun _ k => XS.ifNo X0.here hx rfl (hb hby d2_1) rfl (by decide) k) ?_
  obtain ⟨T1, X1, e1, st1⟩ := getS2 X0 hx hZ hown (host := "") (Or.inl (hw _ (List.mem_of_getElem? (i := 8) rfl))) Via.refl e0 (S_GEODETIC.ext x0) (g := (mkF m 4 #[.val (.int (0 : Int32))] [])) rfl (hb hby d2_4)
  refine own_go (B := T1.setTop (mkF m 7 #[.val (.int (0 : Int32))] [(.ref (A 0))])) st1 ?_
  exact own_ret X1 hx (t := (.object "com/example/oblate/oblate/Frame")) hrt rfl (Or.inr (Or.inr (Or.inr (Or.inr ⟨rfl, rfl, rfl⟩)))) (hb hby d2_7) hlk ⟨rfl, N0, e1⟩ (by decide) (by decide)
set_option maxRecDepth 65536 in
set_option maxHeartbeats 40000000 in
theorem rm3_0 (l : Launch) (Z : State) (a0 : Array Value) (hw : ∀ d ∈ tables_1, d.before a0 Z = true) (ws : List Jvm.Cond)  (A : Nat → Addr) (hW : own_W Z A) (h0 : Heap) (x0 : Ext Z.heap h0)  :
    own_Met l Z (⟨"com/example/oblate/oblate/Frame", "needsReference", "(Lcom/example/oblate/oblate/Frame;)Z"⟩ : MethodName) prog_11_method_8_code 2 (some .boolean) ws ({ frames := 0, cells := 0, slots := 0, locals := 0 } : Room) #[(.ref (A 0)), (.ref (A 0))] h0 (fun v_ h_ L_ => v_ = some (.int (0 : Int32)) ∧ Fr Z.heap.size L_ ∧ h_ = h0) := by
  refine own_body (plainFor_of_name pn_1) fun p e s m below meth c s₁ hx hby hml hown hnm hlk hrt hZ X0 e0 => ?_
  have N0 := Fr.nil Z.heap.size
  have hW' := hW
  obtain ⟨-, -, -, -, -, -, -, -, -, -, F_GEODETIC_local, -, -, -, -⟩ := hW'
  refine own_go (B := s₁.setTop (mkF m 0 #[.val (.ref (A 0)), .val (.ref (A 0))] [])) (fun t k => castTop (ef_3 m (A 0) (A 0)) k) ?_
  refine own_go (B := s₁.setTop (mkF m 1 #[.val (.ref (A 0)), .val (.ref (A 0))] [(.ref (A 0))])) (fun _ k => XS.aloadN X0.here hx rfl (hb hby d3_0) rfl rfl k) ?_
  obtain ⟨T1, X1, e1, st1⟩ := getF X0 hx hZ hown (host := "") (Or.inl (hw _ (List.mem_of_getElem? (i := 18) rfl))) Via.refl e0 (F_GEODETIC_local.ext x0) (g := (mkF m 1 #[.val (.ref (A 0)), .val (.ref (A 0))] [(.ref (A 0))])) rfl rfl (hb hby d3_1)
  refine own_go (B := T1.setTop (mkF m 4 #[.val (.ref (A 0)), .val (.ref (A 0))] [(.int (0 : Int32))])) st1 ?_
  refine own_go (B := T1.setTop (mkF m 7 #[.val (.ref (A 0)), .val (.ref (A 0))] [])) (fun _ k => XS.ifNo X1.here hx rfl (hb hby d3_4) rfl (by decide) k) ?_
  refine own_go (B := T1.setTop (mkF m 8 #[.val (.ref (A 0)), .val (.ref (A 0))] [(.ref (A 0))])) (fun _ k => XS.aloadN X1.here hx rfl (hb hby d3_7) rfl rfl k) ?_
  obtain ⟨T2, X2, e2, st2⟩ := getF X1 hx hZ hown (host := "") (Or.inl (hw _ (List.mem_of_getElem? (i := 18) rfl))) Via.refl e1 (F_GEODETIC_local.ext x0) (g := (mkF m 8 #[.val (.ref (A 0)), .val (.ref (A 0))] [(.ref (A 0))])) rfl rfl (hb hby d3_8)
  refine own_go (B := T2.setTop (mkF m 11 #[.val (.ref (A 0)), .val (.ref (A 0))] [(.int (0 : Int32))])) st2 ?_
  refine own_go (B := T2.setTop (mkF m 18 #[.val (.ref (A 0)), .val (.ref (A 0))] [])) (fun _ k => XS.ifYes X2.here hx rfl (pc0 := 11) (pc' := 18) rfl (hb hby d3_11) rfl (by decide) (by decide) (by decide) k) ?_
  refine own_go (B := T2.setTop (mkF m 19 #[.val (.ref (A 0)), .val (.ref (A 0))] [(.int (0 : Int32))])) (fun _ k => XT.iconstV X2.here hx rfl (0 : Int32) (hb hby d3_18) rfl k) ?_
  exact own_ret X2 hx (t := .boolean) hrt rfl (Or.inl ⟨rfl, by simp, _, rfl⟩) (hb hby d3_19) hlk ⟨rfl, N0, e2⟩ (by decide) (by decide)
set_option maxRecDepth 65536 in
set_option maxHeartbeats 40000000 in
theorem rm1_1 (l : Launch) (Z : State) (a0 : Array Value) (hw : ∀ d ∈ tables_1, d.before a0 Z = true) (ws : List Jvm.Cond)  (A : Nat → Addr) (hW : own_W Z A) (h0 : Heap) (x0 : Ext Z.heap h0)  :
    own_Met l Z (⟨"com/example/oblate/oblate/FrameNeedsReferencePinLaw", "isLocalByDoc", "(I)Z"⟩ : MethodName) method_3_code 1 (some .boolean) ws ({ frames := 0, cells := 0, slots := 0, locals := 0 } : Room) #[(.int (1 : Int32))] h0 (fun v_ h_ L_ => v_ = some (.int (0 : Int32)) ∧ Fr Z.heap.size L_ ∧ h_ = h0) := by
  refine own_body (plainFor_of_name pn_0) fun p e s m below meth c s₁ hx hby hml hown hnm hlk hrt hZ X0 e0 => ?_
  have N0 := Fr.nil Z.heap.size
  have hW' := hW
  obtain ⟨-, -, -, -, -, -, -, -, -, -, -, -, -, -, -⟩ := hW'
  refine own_go (B := s₁.setTop (mkF m 0 #[.val (.int (1 : Int32))] [])) (fun t k => castTop (ef_1 m (1 : Int32)) k) ?_
  refine own_go (B := s₁.setTop (mkF m 1 #[.val (.int (1 : Int32))] [(.int (1 : Int32))])) (fun _ k => XS.iloadN X0.here hx rfl (hb hby d1_0) rfl k) ?_
  refine own_go (B := s₁.setTop (mkF m 2 #[.val (.int (1 : Int32))] [(.int (2 : Int32)), (.int (1 : Int32))])) (fun _ k => XT.iconstV X0.here hx rfl (2 : Int32) (hb hby d1_1) rfl k) ?_
  refine own_go (B := s₁.setTop (mkF m 9 #[.val (.int (1 : Int32))] [])) (fun _ k => XS.icmpYes X0.here hx rfl (pc0 := 2) (pc' := 9) rfl (hb hby d1_2) rfl (by decide) (by decide) (by decide) k) ?_
  refine own_go (B := s₁.setTop (mkF m 10 #[.val (.int (1 : Int32))] [(.int (0 : Int32))])) (fun _ k => XT.iconstV X0.here hx rfl (0 : Int32) (hb hby d1_9) rfl k) ?_
  exact own_ret X0 hx (t := .boolean) hrt rfl (Or.inl ⟨rfl, by simp, _, rfl⟩) (hb hby d1_10) hlk ⟨rfl, N0, e0⟩ (by decide) (by decide)
set_option maxRecDepth 65536 in
set_option maxHeartbeats 40000000 in
theorem rm2_1 (l : Launch) (Z : State) (a0 : Array Value) (hw : ∀ d ∈ tables_1, d.before a0 Z = true) (ws : List Jvm.Cond)  (A : Nat → Addr) (hW : own_W Z A) (h0 : Heap) (x0 : Ext Z.heap h0)  :
    own_Met l Z (⟨"com/example/oblate/oblate/FrameNeedsReferencePinLaw", "pick", "(I)Lcom/example/oblate/oblate/Frame;"⟩ : MethodName) method_2_code 1 (some (.object "com/example/oblate/oblate/Frame")) ws ({ frames := 0, cells := 0, slots := 0, locals := 0 } : Room) #[(.int (1 : Int32))] h0 (fun v_ h_ L_ => v_ = some (.ref (A 3)) ∧ Fr Z.heap.size L_ ∧ h_ = h0) := by
  refine own_body (plainFor_of_name pn_0) fun p e s m below meth c s₁ hx hby hml hown hnm hlk hrt hZ X0 e0 => ?_
  have N0 := Fr.nil Z.heap.size
  have hW' := hW
  obtain ⟨-, -, -, -, -, -, S_ECEF, -, -, -, -, -, -, -, -⟩ := hW'
  refine own_go (B := s₁.setTop (mkF m 0 #[.val (.int (1 : Int32))] [])) (fun t k => castTop (ef_2 m (1 : Int32)) k) ?_
  refine own_go (B := s₁.setTop (mkF m 1 #[.val (.int (1 : Int32))] [(.int (1 : Int32))])) (fun _ k => XS.iloadN X0.here hx rfl (hb hby d2_0) rfl k) ?_
  refine own_go (B := s₁.setTop (mkF m 8 #[.val (.int (1 : Int32))] [])) (fun _ k => XS.ifYes X0.here hx rfl (pc0 := 1) (pc' := 8) rfl (hb hby d2_1) rfl (by decide) (by decide) (by decide) k) ?_
  refine own_go (B := s₁.setTop (mkF m 9 #[.val (.int (1 : Int32))] [(.int (1 : Int32))])) (fun _ k => XS.iloadN X0.here hx rfl (hb hby d2_8) rfl k) ?_
  refine own_go (B := s₁.setTop (mkF m 10 #[.val (.int (1 : Int32))] [(.int (1 : Int32)), (.int (1 : Int32))])) (fun _ k => XT.iconstV X0.here hx rfl (1 : Int32) (hb hby d2_9) rfl k) ?_
  refine own_go (B := s₁.setTop (mkF m 13 #[.val (.int (1 : Int32))] [])) (fun _ k => XS.icmpNo X0.here hx rfl (hb hby d2_10) rfl (by decide) k) ?_
  obtain ⟨T1, X1, e1, st1⟩ := getS2 X0 hx hZ hown (host := "") (Or.inl (hw _ (List.mem_of_getElem? (i := 23) rfl))) Via.refl e0 (S_ECEF.ext x0) (g := (mkF m 13 #[.val (.int (1 : Int32))] [])) rfl (hb hby d2_13)
  refine own_go (B := T1.setTop (mkF m 16 #[.val (.int (1 : Int32))] [(.ref (A 3))])) st1 ?_
  exact own_ret X1 hx (t := (.object "com/example/oblate/oblate/Frame")) hrt rfl (Or.inr (Or.inr (Or.inr (Or.inr ⟨rfl, rfl, rfl⟩)))) (hb hby d2_16) hlk ⟨rfl, N0, e1⟩ (by decide) (by decide)
set_option maxRecDepth 65536 in
set_option maxHeartbeats 40000000 in
theorem rm3_1 (l : Launch) (Z : State) (a0 : Array Value) (hw : ∀ d ∈ tables_1, d.before a0 Z = true) (ws : List Jvm.Cond)  (A : Nat → Addr) (hW : own_W Z A) (h0 : Heap) (x0 : Ext Z.heap h0)  :
    own_Met l Z (⟨"com/example/oblate/oblate/Frame", "needsReference", "(Lcom/example/oblate/oblate/Frame;)Z"⟩ : MethodName) prog_11_method_8_code 2 (some .boolean) ws ({ frames := 0, cells := 0, slots := 0, locals := 0 } : Room) #[(.ref (A 0)), (.ref (A 3))] h0 (fun v_ h_ L_ => v_ = some (.int (0 : Int32)) ∧ Fr Z.heap.size L_ ∧ h_ = h0) := by
  refine own_body (plainFor_of_name pn_1) fun p e s m below meth c s₁ hx hby hml hown hnm hlk hrt hZ X0 e0 => ?_
  have N0 := Fr.nil Z.heap.size
  have hW' := hW
  obtain ⟨-, -, -, -, -, -, -, -, -, -, F_GEODETIC_local, -, -, F_ECEF_local, -⟩ := hW'
  refine own_go (B := s₁.setTop (mkF m 0 #[.val (.ref (A 0)), .val (.ref (A 3))] [])) (fun t k => castTop (ef_3 m (A 0) (A 3)) k) ?_
  refine own_go (B := s₁.setTop (mkF m 1 #[.val (.ref (A 0)), .val (.ref (A 3))] [(.ref (A 0))])) (fun _ k => XS.aloadN X0.here hx rfl (hb hby d3_0) rfl rfl k) ?_
  obtain ⟨T1, X1, e1, st1⟩ := getF X0 hx hZ hown (host := "") (Or.inl (hw _ (List.mem_of_getElem? (i := 18) rfl))) Via.refl e0 (F_GEODETIC_local.ext x0) (g := (mkF m 1 #[.val (.ref (A 0)), .val (.ref (A 3))] [(.ref (A 0))])) rfl rfl (hb hby d3_1)
  refine own_go (B := T1.setTop (mkF m 4 #[.val (.ref (A 0)), .val (.ref (A 3))] [(.int (0 : Int32))])) st1 ?_
  refine own_go (B := T1.setTop (mkF m 7 #[.val (.ref (A 0)), .val (.ref (A 3))] [])) (fun _ k => XS.ifNo X1.here hx rfl (hb hby d3_4) rfl (by decide) k) ?_
  refine own_go (B := T1.setTop (mkF m 8 #[.val (.ref (A 0)), .val (.ref (A 3))] [(.ref (A 3))])) (fun _ k => XS.aloadN X1.here hx rfl (hb hby d3_7) rfl rfl k) ?_
  obtain ⟨T2, X2, e2, st2⟩ := getF X1 hx hZ hown (host := "") (Or.inl (hw _ (List.mem_of_getElem? (i := 18) rfl))) Via.refl e1 (F_ECEF_local.ext x0) (g := (mkF m 8 #[.val (.ref (A 0)), .val (.ref (A 3))] [(.ref (A 3))])) rfl rfl (hb hby d3_8)
  refine own_go (B := T2.setTop (mkF m 11 #[.val (.ref (A 0)), .val (.ref (A 3))] [(.int (0 : Int32))])) st2 ?_
  refine own_go (B := T2.setTop (mkF m 18 #[.val (.ref (A 0)), .val (.ref (A 3))] [])) (fun _ k => XS.ifYes X2.here hx rfl (pc0 := 11) (pc' := 18) rfl (hb hby d3_11) rfl (by decide) (by decide) (by decide) k) ?_
  refine own_go (B := T2.setTop (mkF m 19 #[.val (.ref (A 0)), .val (.ref (A 3))] [(.int (0 : Int32))])) (fun _ k => XT.iconstV X2.here hx rfl (0 : Int32) (hb hby d3_18) rfl k) ?_
  exact own_ret X2 hx (t := .boolean) hrt rfl (Or.inl ⟨rfl, by simp, _, rfl⟩) (hb hby d3_19) hlk ⟨rfl, N0, e2⟩ (by decide) (by decide)
set_option maxRecDepth 65536 in
set_option maxHeartbeats 40000000 in
theorem rm1_2 (l : Launch) (Z : State) (a0 : Array Value) (hw : ∀ d ∈ tables_1, d.before a0 Z = true) (ws : List Jvm.Cond)  (A : Nat → Addr) (hW : own_W Z A) (h0 : Heap) (x0 : Ext Z.heap h0)  :
    own_Met l Z (⟨"com/example/oblate/oblate/FrameNeedsReferencePinLaw", "isLocalByDoc", "(I)Z"⟩ : MethodName) method_3_code 1 (some .boolean) ws ({ frames := 0, cells := 0, slots := 0, locals := 0 } : Room) #[(.int (2 : Int32))] h0 (fun v_ h_ L_ => v_ = some (.int (1 : Int32)) ∧ Fr Z.heap.size L_ ∧ h_ = h0) := by
  refine own_body (plainFor_of_name pn_0) fun p e s m below meth c s₁ hx hby hml hown hnm hlk hrt hZ X0 e0 => ?_
  have N0 := Fr.nil Z.heap.size
  have hW' := hW
  obtain ⟨-, -, -, -, -, -, -, -, -, -, -, -, -, -, -⟩ := hW'
  refine own_go (B := s₁.setTop (mkF m 0 #[.val (.int (2 : Int32))] [])) (fun t k => castTop (ef_1 m (2 : Int32)) k) ?_
  refine own_go (B := s₁.setTop (mkF m 1 #[.val (.int (2 : Int32))] [(.int (2 : Int32))])) (fun _ k => XS.iloadN X0.here hx rfl (hb hby d1_0) rfl k) ?_
  refine own_go (B := s₁.setTop (mkF m 2 #[.val (.int (2 : Int32))] [(.int (2 : Int32)), (.int (2 : Int32))])) (fun _ k => XT.iconstV X0.here hx rfl (2 : Int32) (hb hby d1_1) rfl k) ?_
  refine own_go (B := s₁.setTop (mkF m 5 #[.val (.int (2 : Int32))] [])) (fun _ k => XS.icmpNo X0.here hx rfl (hb hby d1_2) rfl (by decide) k) ?_
  refine own_go (B := s₁.setTop (mkF m 6 #[.val (.int (2 : Int32))] [(.int (1 : Int32))])) (fun _ k => XT.iconstV X0.here hx rfl (1 : Int32) (hb hby d1_5) rfl k) ?_
  refine own_go (B := s₁.setTop (mkF m 10 #[.val (.int (2 : Int32))] [(.int (1 : Int32))])) (fun _ k => XS.goto X0.here hx rfl (pc0 := 6) (pc' := 10) rfl (hb hby d1_6) (by decide) (by decide) k) ?_
  exact own_ret X0 hx (t := .boolean) hrt rfl (Or.inl ⟨rfl, by simp, _, rfl⟩) (hb hby d1_10) hlk ⟨rfl, N0, e0⟩ (by decide) (by decide)
set_option maxRecDepth 65536 in
set_option maxHeartbeats 40000000 in
theorem rm2_2 (l : Launch) (Z : State) (a0 : Array Value) (hw : ∀ d ∈ tables_1, d.before a0 Z = true) (ws : List Jvm.Cond)  (A : Nat → Addr) (hW : own_W Z A) (h0 : Heap) (x0 : Ext Z.heap h0)  :
    own_Met l Z (⟨"com/example/oblate/oblate/FrameNeedsReferencePinLaw", "pick", "(I)Lcom/example/oblate/oblate/Frame;"⟩ : MethodName) method_2_code 1 (some (.object "com/example/oblate/oblate/Frame")) ws ({ frames := 0, cells := 0, slots := 0, locals := 0 } : Room) #[(.int (2 : Int32))] h0 (fun v_ h_ L_ => v_ = some (.ref (A 4)) ∧ Fr Z.heap.size L_ ∧ h_ = h0) := by
  refine own_body (plainFor_of_name pn_0) fun p e s m below meth c s₁ hx hby hml hown hnm hlk hrt hZ X0 e0 => ?_
  have N0 := Fr.nil Z.heap.size
  have hW' := hW
  obtain ⟨-, -, -, -, -, -, -, -, S_ENU, -, -, -, -, -, -⟩ := hW'
  refine own_go (B := s₁.setTop (mkF m 0 #[.val (.int (2 : Int32))] [])) (fun t k => castTop (ef_2 m (2 : Int32)) k) ?_
  refine own_go (B := s₁.setTop (mkF m 1 #[.val (.int (2 : Int32))] [(.int (2 : Int32))])) (fun _ k => XS.iloadN X0.here hx rfl (hb hby d2_0) rfl k) ?_
  refine own_go (B := s₁.setTop (mkF m 8 #[.val (.int (2 : Int32))] [])) (fun _ k => XS.ifYes X0.here hx rfl (pc0 := 1) (pc' := 8) rfl (hb hby d2_1) rfl (by decide) (by decide) (by decide) k) ?_
  refine own_go (B := s₁.setTop (mkF m 9 #[.val (.int (2 : Int32))] [(.int (2 : Int32))])) (fun _ k => XS.iloadN X0.here hx rfl (hb hby d2_8) rfl k) ?_
  refine own_go (B := s₁.setTop (mkF m 10 #[.val (.int (2 : Int32))] [(.int (1 : Int32)), (.int (2 : Int32))])) (fun _ k => XT.iconstV X0.here hx rfl (1 : Int32) (hb hby d2_9) rfl k) ?_
  refine own_go (B := s₁.setTop (mkF m 17 #[.val (.int (2 : Int32))] [])) (fun _ k => XS.icmpYes X0.here hx rfl (pc0 := 10) (pc' := 17) rfl (hb hby d2_10) rfl (by decide) (by decide) (by decide) k) ?_
  refine own_go (B := s₁.setTop (mkF m 18 #[.val (.int (2 : Int32))] [(.int (2 : Int32))])) (fun _ k => XS.iloadN X0.here hx rfl (hb hby d2_17) rfl k) ?_
  refine own_go (B := s₁.setTop (mkF m 19 #[.val (.int (2 : Int32))] [(.int (2 : Int32)), (.int (2 : Int32))])) (fun _ k => XT.iconstV X0.here hx rfl (2 : Int32) (hb hby d2_18) rfl k) ?_
  refine own_go (B := s₁.setTop (mkF m 22 #[.val (.int (2 : Int32))] [])) (fun _ k => XS.icmpNo X0.here hx rfl (hb hby d2_19) rfl (by decide) k) ?_
  obtain ⟨T1, X1, e1, st1⟩ := getS2 X0 hx hZ hown (host := "") (Or.inl (hw _ (List.mem_of_getElem? (i := 30) rfl))) Via.refl e0 (S_ENU.ext x0) (g := (mkF m 22 #[.val (.int (2 : Int32))] [])) rfl (hb hby d2_22)
  refine own_go (B := T1.setTop (mkF m 25 #[.val (.int (2 : Int32))] [(.ref (A 4))])) st1 ?_
  exact own_ret X1 hx (t := (.object "com/example/oblate/oblate/Frame")) hrt rfl (Or.inr (Or.inr (Or.inr (Or.inr ⟨rfl, rfl, rfl⟩)))) (hb hby d2_25) hlk ⟨rfl, N0, e1⟩ (by decide) (by decide)
set_option maxRecDepth 65536 in
set_option maxHeartbeats 40000000 in
theorem rm3_2 (l : Launch) (Z : State) (a0 : Array Value) (hw : ∀ d ∈ tables_1, d.before a0 Z = true) (ws : List Jvm.Cond)  (A : Nat → Addr) (hW : own_W Z A) (h0 : Heap) (x0 : Ext Z.heap h0)  :
    own_Met l Z (⟨"com/example/oblate/oblate/Frame", "needsReference", "(Lcom/example/oblate/oblate/Frame;)Z"⟩ : MethodName) prog_11_method_8_code 2 (some .boolean) ws ({ frames := 0, cells := 0, slots := 0, locals := 0 } : Room) #[(.ref (A 0)), (.ref (A 4))] h0 (fun v_ h_ L_ => v_ = some (.int (1 : Int32)) ∧ Fr Z.heap.size L_ ∧ h_ = h0) := by
  refine own_body (plainFor_of_name pn_1) fun p e s m below meth c s₁ hx hby hml hown hnm hlk hrt hZ X0 e0 => ?_
  have N0 := Fr.nil Z.heap.size
  have hW' := hW
  obtain ⟨-, -, -, -, -, -, -, -, -, -, F_GEODETIC_local, -, -, -, F_ENU_local⟩ := hW'
  refine own_go (B := s₁.setTop (mkF m 0 #[.val (.ref (A 0)), .val (.ref (A 4))] [])) (fun t k => castTop (ef_3 m (A 0) (A 4)) k) ?_
  refine own_go (B := s₁.setTop (mkF m 1 #[.val (.ref (A 0)), .val (.ref (A 4))] [(.ref (A 0))])) (fun _ k => XS.aloadN X0.here hx rfl (hb hby d3_0) rfl rfl k) ?_
  obtain ⟨T1, X1, e1, st1⟩ := getF X0 hx hZ hown (host := "") (Or.inl (hw _ (List.mem_of_getElem? (i := 18) rfl))) Via.refl e0 (F_GEODETIC_local.ext x0) (g := (mkF m 1 #[.val (.ref (A 0)), .val (.ref (A 4))] [(.ref (A 0))])) rfl rfl (hb hby d3_1)
  refine own_go (B := T1.setTop (mkF m 4 #[.val (.ref (A 0)), .val (.ref (A 4))] [(.int (0 : Int32))])) st1 ?_
  refine own_go (B := T1.setTop (mkF m 7 #[.val (.ref (A 0)), .val (.ref (A 4))] [])) (fun _ k => XS.ifNo X1.here hx rfl (hb hby d3_4) rfl (by decide) k) ?_
  refine own_go (B := T1.setTop (mkF m 8 #[.val (.ref (A 0)), .val (.ref (A 4))] [(.ref (A 4))])) (fun _ k => XS.aloadN X1.here hx rfl (hb hby d3_7) rfl rfl k) ?_
  obtain ⟨T2, X2, e2, st2⟩ := getF X1 hx hZ hown (host := "") (Or.inl (hw _ (List.mem_of_getElem? (i := 18) rfl))) Via.refl e1 (F_ENU_local.ext x0) (g := (mkF m 8 #[.val (.ref (A 0)), .val (.ref (A 4))] [(.ref (A 4))])) rfl rfl (hb hby d3_8)
  refine own_go (B := T2.setTop (mkF m 11 #[.val (.ref (A 0)), .val (.ref (A 4))] [(.int (1 : Int32))])) st2 ?_
  refine own_go (B := T2.setTop (mkF m 14 #[.val (.ref (A 0)), .val (.ref (A 4))] [])) (fun _ k => XS.ifNo X2.here hx rfl (hb hby d3_11) rfl (by decide) k) ?_
  refine own_go (B := T2.setTop (mkF m 15 #[.val (.ref (A 0)), .val (.ref (A 4))] [(.int (1 : Int32))])) (fun _ k => XT.iconstV X2.here hx rfl (1 : Int32) (hb hby d3_14) rfl k) ?_
  refine own_go (B := T2.setTop (mkF m 19 #[.val (.ref (A 0)), .val (.ref (A 4))] [(.int (1 : Int32))])) (fun _ k => XS.goto X2.here hx rfl (pc0 := 15) (pc' := 19) rfl (hb hby d3_15) (by decide) (by decide) k) ?_
  exact own_ret X2 hx (t := .boolean) hrt rfl (Or.inl ⟨rfl, by simp, _, rfl⟩) (hb hby d3_19) hlk ⟨rfl, N0, e2⟩ (by decide) (by decide)
set_option maxRecDepth 65536 in
set_option maxHeartbeats 40000000 in
theorem rm1_3 (l : Launch) (Z : State) (a0 : Array Value) (hw : ∀ d ∈ tables_1, d.before a0 Z = true) (ws : List Jvm.Cond)  (A : Nat → Addr) (hW : own_W Z A) (h0 : Heap) (x0 : Ext Z.heap h0)  :
    own_Met l Z (⟨"com/example/oblate/oblate/FrameNeedsReferencePinLaw", "isLocalByDoc", "(I)Z"⟩ : MethodName) method_3_code 1 (some .boolean) ws ({ frames := 0, cells := 0, slots := 0, locals := 0 } : Room) #[(.int (3 : Int32))] h0 (fun v_ h_ L_ => v_ = some (.int (1 : Int32)) ∧ Fr Z.heap.size L_ ∧ h_ = h0) := by
  refine own_body (plainFor_of_name pn_0) fun p e s m below meth c s₁ hx hby hml hown hnm hlk hrt hZ X0 e0 => ?_
  have N0 := Fr.nil Z.heap.size
  have hW' := hW
  obtain ⟨-, -, -, -, -, -, -, -, -, -, -, -, -, -, -⟩ := hW'
  refine own_go (B := s₁.setTop (mkF m 0 #[.val (.int (3 : Int32))] [])) (fun t k => castTop (ef_1 m (3 : Int32)) k) ?_
  refine own_go (B := s₁.setTop (mkF m 1 #[.val (.int (3 : Int32))] [(.int (3 : Int32))])) (fun _ k => XS.iloadN X0.here hx rfl (hb hby d1_0) rfl k) ?_
  refine own_go (B := s₁.setTop (mkF m 2 #[.val (.int (3 : Int32))] [(.int (2 : Int32)), (.int (3 : Int32))])) (fun _ k => XT.iconstV X0.here hx rfl (2 : Int32) (hb hby d1_1) rfl k) ?_
  refine own_go (B := s₁.setTop (mkF m 5 #[.val (.int (3 : Int32))] [])) (fun _ k => XS.icmpNo X0.here hx rfl (hb hby d1_2) rfl (by decide) k) ?_
  refine own_go (B := s₁.setTop (mkF m 6 #[.val (.int (3 : Int32))] [(.int (1 : Int32))])) (fun _ k => XT.iconstV X0.here hx rfl (1 : Int32) (hb hby d1_5) rfl k) ?_
  refine own_go (B := s₁.setTop (mkF m 10 #[.val (.int (3 : Int32))] [(.int (1 : Int32))])) (fun _ k => XS.goto X0.here hx rfl (pc0 := 6) (pc' := 10) rfl (hb hby d1_6) (by decide) (by decide) k) ?_
  exact own_ret X0 hx (t := .boolean) hrt rfl (Or.inl ⟨rfl, by simp, _, rfl⟩) (hb hby d1_10) hlk ⟨rfl, N0, e0⟩ (by decide) (by decide)
set_option maxRecDepth 65536 in
set_option maxHeartbeats 40000000 in
theorem rm2_3 (l : Launch) (Z : State) (a0 : Array Value) (hw : ∀ d ∈ tables_1, d.before a0 Z = true) (ws : List Jvm.Cond)  (A : Nat → Addr) (hW : own_W Z A) (h0 : Heap) (x0 : Ext Z.heap h0)  :
    own_Met l Z (⟨"com/example/oblate/oblate/FrameNeedsReferencePinLaw", "pick", "(I)Lcom/example/oblate/oblate/Frame;"⟩ : MethodName) method_2_code 1 (some (.object "com/example/oblate/oblate/Frame")) ws ({ frames := 0, cells := 0, slots := 0, locals := 0 } : Room) #[(.int (3 : Int32))] h0 (fun v_ h_ L_ => v_ = some (.ref (A 1)) ∧ Fr Z.heap.size L_ ∧ h_ = h0) := by
  refine own_body (plainFor_of_name pn_0) fun p e s m below meth c s₁ hx hby hml hown hnm hlk hrt hZ X0 e0 => ?_
  have N0 := Fr.nil Z.heap.size
  have hW' := hW
  obtain ⟨-, -, S_NED, -, -, -, -, -, -, -, -, -, -, -, -⟩ := hW'
  refine own_go (B := s₁.setTop (mkF m 0 #[.val (.int (3 : Int32))] [])) (fun t k => castTop (ef_2 m (3 : Int32)) k) ?_
  refine own_go (B := s₁.setTop (mkF m 1 #[.val (.int (3 : Int32))] [(.int (3 : Int32))])) (fun _ k => XS.iloadN X0.here hx rfl (hb hby d2_0) rfl k) ?_
  refine own_go (B := s₁.setTop (mkF m 8 #[.val (.int (3 : Int32))] [])) (fun _ k => XS.ifYes X0.here hx rfl (pc0 := 1) (pc' := 8) rfl (hb hby d2_1) rfl (by decide) (by decide) (by decide) k) ?_
  refine own_go (B := s₁.setTop (mkF m 9 #[.val (.int (3 : Int32))] [(.int (3 : Int32))])) (fun _ k => XS.iloadN X0.here hx rfl (hb hby d2_8) rfl k) ?_
  refine own_go (B := s₁.setTop (mkF m 10 #[.val (.int (3 : Int32))] [(.int (1 : Int32)), (.int (3 : Int32))])) (fun _ k => XT.iconstV X0.here hx rfl (1 : Int32) (hb hby d2_9) rfl k) ?_
  refine own_go (B := s₁.setTop (mkF m 17 #[.val (.int (3 : Int32))] [])) (fun _ k => XS.icmpYes X0.here hx rfl (pc0 := 10) (pc' := 17) rfl (hb hby d2_10) rfl (by decide) (by decide) (by decide) k) ?_
  refine own_go (B := s₁.setTop (mkF m 18 #[.val (.int (3 : Int32))] [(.int (3 : Int32))])) (fun _ k => XS.iloadN X0.here hx rfl (hb hby d2_17) rfl k) ?_
  refine own_go (B := s₁.setTop (mkF m 19 #[.val (.int (3 : Int32))] [(.int (2 : Int32)), (.int (3 : Int32))])) (fun _ k => XT.iconstV X0.here hx rfl (2 : Int32) (hb hby d2_18) rfl k) ?_
  refine own_go (B := s₁.setTop (mkF m 26 #[.val (.int (3 : Int32))] [])) (fun _ k => XS.icmpYes X0.here hx rfl (pc0 := 19) (pc' := 26) rfl (hb hby d2_19) rfl (by decide) (by decide) (by decide) k) ?_
  refine own_go (B := s₁.setTop (mkF m 27 #[.val (.int (3 : Int32))] [(.int (3 : Int32))])) (fun _ k => XS.iloadN X0.here hx rfl (hb hby d2_26) rfl k) ?_
  refine own_go (B := s₁.setTop (mkF m 28 #[.val (.int (3 : Int32))] [(.int (3 : Int32)), (.int (3 : Int32))])) (fun _ k => XT.iconstV X0.here hx rfl (3 : Int32) (hb hby d2_27) rfl k) ?_
  refine own_go (B := s₁.setTop (mkF m 31 #[.val (.int (3 : Int32))] [])) (fun _ k => XS.icmpNo X0.here hx rfl (hb hby d2_28) rfl (by decide) k) ?_
  obtain ⟨T1, X1, e1, st1⟩ := getS2 X0 hx hZ hown (host := "") (Or.inl (hw _ (List.mem_of_getElem? (i := 11) rfl))) Via.refl e0 (S_NED.ext x0) (g := (mkF m 31 #[.val (.int (3 : Int32))] [])) rfl (hb hby d2_31)
  refine own_go (B := T1.setTop (mkF m 34 #[.val (.int (3 : Int32))] [(.ref (A 1))])) st1 ?_
  exact own_ret X1 hx (t := (.object "com/example/oblate/oblate/Frame")) hrt rfl (Or.inr (Or.inr (Or.inr (Or.inr ⟨rfl, rfl, rfl⟩)))) (hb hby d2_34) hlk ⟨rfl, N0, e1⟩ (by decide) (by decide)
set_option maxRecDepth 65536 in
set_option maxHeartbeats 40000000 in
theorem rm3_3 (l : Launch) (Z : State) (a0 : Array Value) (hw : ∀ d ∈ tables_1, d.before a0 Z = true) (ws : List Jvm.Cond)  (A : Nat → Addr) (hW : own_W Z A) (h0 : Heap) (x0 : Ext Z.heap h0)  :
    own_Met l Z (⟨"com/example/oblate/oblate/Frame", "needsReference", "(Lcom/example/oblate/oblate/Frame;)Z"⟩ : MethodName) prog_11_method_8_code 2 (some .boolean) ws ({ frames := 0, cells := 0, slots := 0, locals := 0 } : Room) #[(.ref (A 0)), (.ref (A 1))] h0 (fun v_ h_ L_ => v_ = some (.int (1 : Int32)) ∧ Fr Z.heap.size L_ ∧ h_ = h0) := by
  refine own_body (plainFor_of_name pn_1) fun p e s m below meth c s₁ hx hby hml hown hnm hlk hrt hZ X0 e0 => ?_
  have N0 := Fr.nil Z.heap.size
  have hW' := hW
  obtain ⟨-, -, -, -, -, -, -, -, -, -, F_GEODETIC_local, F_NED_local, -, -, -⟩ := hW'
  refine own_go (B := s₁.setTop (mkF m 0 #[.val (.ref (A 0)), .val (.ref (A 1))] [])) (fun t k => castTop (ef_3 m (A 0) (A 1)) k) ?_
  refine own_go (B := s₁.setTop (mkF m 1 #[.val (.ref (A 0)), .val (.ref (A 1))] [(.ref (A 0))])) (fun _ k => XS.aloadN X0.here hx rfl (hb hby d3_0) rfl rfl k) ?_
  obtain ⟨T1, X1, e1, st1⟩ := getF X0 hx hZ hown (host := "") (Or.inl (hw _ (List.mem_of_getElem? (i := 18) rfl))) Via.refl e0 (F_GEODETIC_local.ext x0) (g := (mkF m 1 #[.val (.ref (A 0)), .val (.ref (A 1))] [(.ref (A 0))])) rfl rfl (hb hby d3_1)
  refine own_go (B := T1.setTop (mkF m 4 #[.val (.ref (A 0)), .val (.ref (A 1))] [(.int (0 : Int32))])) st1 ?_
  refine own_go (B := T1.setTop (mkF m 7 #[.val (.ref (A 0)), .val (.ref (A 1))] [])) (fun _ k => XS.ifNo X1.here hx rfl (hb hby d3_4) rfl (by decide) k) ?_
  refine own_go (B := T1.setTop (mkF m 8 #[.val (.ref (A 0)), .val (.ref (A 1))] [(.ref (A 1))])) (fun _ k => XS.aloadN X1.here hx rfl (hb hby d3_7) rfl rfl k) ?_
  obtain ⟨T2, X2, e2, st2⟩ := getF X1 hx hZ hown (host := "") (Or.inl (hw _ (List.mem_of_getElem? (i := 18) rfl))) Via.refl e1 (F_NED_local.ext x0) (g := (mkF m 8 #[.val (.ref (A 0)), .val (.ref (A 1))] [(.ref (A 1))])) rfl rfl (hb hby d3_8)
  refine own_go (B := T2.setTop (mkF m 11 #[.val (.ref (A 0)), .val (.ref (A 1))] [(.int (1 : Int32))])) st2 ?_
  refine own_go (B := T2.setTop (mkF m 14 #[.val (.ref (A 0)), .val (.ref (A 1))] [])) (fun _ k => XS.ifNo X2.here hx rfl (hb hby d3_11) rfl (by decide) k) ?_
  refine own_go (B := T2.setTop (mkF m 15 #[.val (.ref (A 0)), .val (.ref (A 1))] [(.int (1 : Int32))])) (fun _ k => XT.iconstV X2.here hx rfl (1 : Int32) (hb hby d3_14) rfl k) ?_
  refine own_go (B := T2.setTop (mkF m 19 #[.val (.ref (A 0)), .val (.ref (A 1))] [(.int (1 : Int32))])) (fun _ k => XS.goto X2.here hx rfl (pc0 := 15) (pc' := 19) rfl (hb hby d3_15) (by decide) (by decide) k) ?_
  exact own_ret X2 hx (t := .boolean) hrt rfl (Or.inl ⟨rfl, by simp, _, rfl⟩) (hb hby d3_19) hlk ⟨rfl, N0, e2⟩ (by decide) (by decide)
set_option maxRecDepth 65536 in
set_option maxHeartbeats 40000000 in
theorem rm1_4 (l : Launch) (Z : State) (a0 : Array Value) (hw : ∀ d ∈ tables_1, d.before a0 Z = true) (ws : List Jvm.Cond)  (A : Nat → Addr) (hW : own_W Z A) (h0 : Heap) (x0 : Ext Z.heap h0)  :
    own_Met l Z (⟨"com/example/oblate/oblate/FrameNeedsReferencePinLaw", "isLocalByDoc", "(I)Z"⟩ : MethodName) method_3_code 1 (some .boolean) ws ({ frames := 0, cells := 0, slots := 0, locals := 0 } : Room) #[(.int (4 : Int32))] h0 (fun v_ h_ L_ => v_ = some (.int (1 : Int32)) ∧ Fr Z.heap.size L_ ∧ h_ = h0) := by
  refine own_body (plainFor_of_name pn_0) fun p e s m below meth c s₁ hx hby hml hown hnm hlk hrt hZ X0 e0 => ?_
  have N0 := Fr.nil Z.heap.size
  have hW' := hW
  obtain ⟨-, -, -, -, -, -, -, -, -, -, -, -, -, -, -⟩ := hW'
  refine own_go (B := s₁.setTop (mkF m 0 #[.val (.int (4 : Int32))] [])) (fun t k => castTop (ef_1 m (4 : Int32)) k) ?_
  refine own_go (B := s₁.setTop (mkF m 1 #[.val (.int (4 : Int32))] [(.int (4 : Int32))])) (fun _ k => XS.iloadN X0.here hx rfl (hb hby d1_0) rfl k) ?_
  refine own_go (B := s₁.setTop (mkF m 2 #[.val (.int (4 : Int32))] [(.int (2 : Int32)), (.int (4 : Int32))])) (fun _ k => XT.iconstV X0.here hx rfl (2 : Int32) (hb hby d1_1) rfl k) ?_
  refine own_go (B := s₁.setTop (mkF m 5 #[.val (.int (4 : Int32))] [])) (fun _ k => XS.icmpNo X0.here hx rfl (hb hby d1_2) rfl (by decide) k) ?_
  refine own_go (B := s₁.setTop (mkF m 6 #[.val (.int (4 : Int32))] [(.int (1 : Int32))])) (fun _ k => XT.iconstV X0.here hx rfl (1 : Int32) (hb hby d1_5) rfl k) ?_
  refine own_go (B := s₁.setTop (mkF m 10 #[.val (.int (4 : Int32))] [(.int (1 : Int32))])) (fun _ k => XS.goto X0.here hx rfl (pc0 := 6) (pc' := 10) rfl (hb hby d1_6) (by decide) (by decide) k) ?_
  exact own_ret X0 hx (t := .boolean) hrt rfl (Or.inl ⟨rfl, by simp, _, rfl⟩) (hb hby d1_10) hlk ⟨rfl, N0, e0⟩ (by decide) (by decide)
set_option maxRecDepth 65536 in
set_option maxHeartbeats 40000000 in
theorem rm2_4 (l : Launch) (Z : State) (a0 : Array Value) (hw : ∀ d ∈ tables_1, d.before a0 Z = true) (ws : List Jvm.Cond)  (A : Nat → Addr) (hW : own_W Z A) (h0 : Heap) (x0 : Ext Z.heap h0)  :
    own_Met l Z (⟨"com/example/oblate/oblate/FrameNeedsReferencePinLaw", "pick", "(I)Lcom/example/oblate/oblate/Frame;"⟩ : MethodName) method_2_code 1 (some (.object "com/example/oblate/oblate/Frame")) ws ({ frames := 0, cells := 0, slots := 0, locals := 0 } : Room) #[(.int (4 : Int32))] h0 (fun v_ h_ L_ => v_ = some (.ref (A 2)) ∧ Fr Z.heap.size L_ ∧ h_ = h0) := by
  refine own_body (plainFor_of_name pn_0) fun p e s m below meth c s₁ hx hby hml hown hnm hlk hrt hZ X0 e0 => ?_
  have N0 := Fr.nil Z.heap.size
  have hW' := hW
  obtain ⟨-, -, -, -, S_AER, -, -, -, -, -, -, -, -, -, -⟩ := hW'
  refine own_go (B := s₁.setTop (mkF m 0 #[.val (.int (4 : Int32))] [])) (fun t k => castTop (ef_2 m (4 : Int32)) k) ?_
  refine own_go (B := s₁.setTop (mkF m 1 #[.val (.int (4 : Int32))] [(.int (4 : Int32))])) (fun _ k => XS.iloadN X0.here hx rfl (hb hby d2_0) rfl k) ?_
  refine own_go (B := s₁.setTop (mkF m 8 #[.val (.int (4 : Int32))] [])) (fun _ k => XS.ifYes X0.here hx rfl (pc0 := 1) (pc' := 8) rfl (hb hby d2_1) rfl (by decide) (by decide) (by decide) k) ?_
  refine own_go (B := s₁.setTop (mkF m 9 #[.val (.int (4 : Int32))] [(.int (4 : Int32))])) (fun _ k => XS.iloadN X0.here hx rfl (hb hby d2_8) rfl k) ?_
  refine own_go (B := s₁.setTop (mkF m 10 #[.val (.int (4 : Int32))] [(.int (1 : Int32)), (.int (4 : Int32))])) (fun _ k => XT.iconstV X0.here hx rfl (1 : Int32) (hb hby d2_9) rfl k) ?_
  refine own_go (B := s₁.setTop (mkF m 17 #[.val (.int (4 : Int32))] [])) (fun _ k => XS.icmpYes X0.here hx rfl (pc0 := 10) (pc' := 17) rfl (hb hby d2_10) rfl (by decide) (by decide) (by decide) k) ?_
  refine own_go (B := s₁.setTop (mkF m 18 #[.val (.int (4 : Int32))] [(.int (4 : Int32))])) (fun _ k => XS.iloadN X0.here hx rfl (hb hby d2_17) rfl k) ?_
  refine own_go (B := s₁.setTop (mkF m 19 #[.val (.int (4 : Int32))] [(.int (2 : Int32)), (.int (4 : Int32))])) (fun _ k => XT.iconstV X0.here hx rfl (2 : Int32) (hb hby d2_18) rfl k) ?_
  refine own_go (B := s₁.setTop (mkF m 26 #[.val (.int (4 : Int32))] [])) (fun _ k => XS.icmpYes X0.here hx rfl (pc0 := 19) (pc' := 26) rfl (hb hby d2_19) rfl (by decide) (by decide) (by decide) k) ?_
  refine own_go (B := s₁.setTop (mkF m 27 #[.val (.int (4 : Int32))] [(.int (4 : Int32))])) (fun _ k => XS.iloadN X0.here hx rfl (hb hby d2_26) rfl k) ?_
  refine own_go (B := s₁.setTop (mkF m 28 #[.val (.int (4 : Int32))] [(.int (3 : Int32)), (.int (4 : Int32))])) (fun _ k => XT.iconstV X0.here hx rfl (3 : Int32) (hb hby d2_27) rfl k) ?_
  refine own_go (B := s₁.setTop (mkF m 35 #[.val (.int (4 : Int32))] [])) (fun _ k => XS.icmpYes X0.here hx rfl (pc0 := 28) (pc' := 35) rfl (hb hby d2_28) rfl (by decide) (by decide) (by decide) k) ?_
  obtain ⟨T1, X1, e1, st1⟩ := getS2 X0 hx hZ hown (host := "") (Or.inl (hw _ (List.mem_of_getElem? (i := 21) rfl))) Via.refl e0 (S_AER.ext x0) (g := (mkF m 35 #[.val (.int (4 : Int32))] [])) rfl (hb hby d2_35)
  refine own_go (B := T1.setTop (mkF m 38 #[.val (.int (4 : Int32))] [(.ref (A 2))])) st1 ?_
  exact own_ret X1 hx (t := (.object "com/example/oblate/oblate/Frame")) hrt rfl (Or.inr (Or.inr (Or.inr (Or.inr ⟨rfl, rfl, rfl⟩)))) (hb hby d2_38) hlk ⟨rfl, N0, e1⟩ (by decide) (by decide)
set_option maxRecDepth 65536 in
set_option maxHeartbeats 40000000 in
theorem rm3_4 (l : Launch) (Z : State) (a0 : Array Value) (hw : ∀ d ∈ tables_1, d.before a0 Z = true) (ws : List Jvm.Cond)  (A : Nat → Addr) (hW : own_W Z A) (h0 : Heap) (x0 : Ext Z.heap h0)  :
    own_Met l Z (⟨"com/example/oblate/oblate/Frame", "needsReference", "(Lcom/example/oblate/oblate/Frame;)Z"⟩ : MethodName) prog_11_method_8_code 2 (some .boolean) ws ({ frames := 0, cells := 0, slots := 0, locals := 0 } : Room) #[(.ref (A 0)), (.ref (A 2))] h0 (fun v_ h_ L_ => v_ = some (.int (1 : Int32)) ∧ Fr Z.heap.size L_ ∧ h_ = h0) := by
  refine own_body (plainFor_of_name pn_1) fun p e s m below meth c s₁ hx hby hml hown hnm hlk hrt hZ X0 e0 => ?_
  have N0 := Fr.nil Z.heap.size
  have hW' := hW
  obtain ⟨-, -, -, -, -, -, -, -, -, -, F_GEODETIC_local, -, F_AER_local, -, -⟩ := hW'
  refine own_go (B := s₁.setTop (mkF m 0 #[.val (.ref (A 0)), .val (.ref (A 2))] [])) (fun t k => castTop (ef_3 m (A 0) (A 2)) k) ?_
  refine own_go (B := s₁.setTop (mkF m 1 #[.val (.ref (A 0)), .val (.ref (A 2))] [(.ref (A 0))])) (fun _ k => XS.aloadN X0.here hx rfl (hb hby d3_0) rfl rfl k) ?_
  obtain ⟨T1, X1, e1, st1⟩ := getF X0 hx hZ hown (host := "") (Or.inl (hw _ (List.mem_of_getElem? (i := 18) rfl))) Via.refl e0 (F_GEODETIC_local.ext x0) (g := (mkF m 1 #[.val (.ref (A 0)), .val (.ref (A 2))] [(.ref (A 0))])) rfl rfl (hb hby d3_1)
  refine own_go (B := T1.setTop (mkF m 4 #[.val (.ref (A 0)), .val (.ref (A 2))] [(.int (0 : Int32))])) st1 ?_
  refine own_go (B := T1.setTop (mkF m 7 #[.val (.ref (A 0)), .val (.ref (A 2))] [])) (fun _ k => XS.ifNo X1.here hx rfl (hb hby d3_4) rfl (by decide) k) ?_
  refine own_go (B := T1.setTop (mkF m 8 #[.val (.ref (A 0)), .val (.ref (A 2))] [(.ref (A 2))])) (fun _ k => XS.aloadN X1.here hx rfl (hb hby d3_7) rfl rfl k) ?_
  obtain ⟨T2, X2, e2, st2⟩ := getF X1 hx hZ hown (host := "") (Or.inl (hw _ (List.mem_of_getElem? (i := 18) rfl))) Via.refl e1 (F_AER_local.ext x0) (g := (mkF m 8 #[.val (.ref (A 0)), .val (.ref (A 2))] [(.ref (A 2))])) rfl rfl (hb hby d3_8)
  refine own_go (B := T2.setTop (mkF m 11 #[.val (.ref (A 0)), .val (.ref (A 2))] [(.int (1 : Int32))])) st2 ?_
  refine own_go (B := T2.setTop (mkF m 14 #[.val (.ref (A 0)), .val (.ref (A 2))] [])) (fun _ k => XS.ifNo X2.here hx rfl (hb hby d3_11) rfl (by decide) k) ?_
  refine own_go (B := T2.setTop (mkF m 15 #[.val (.ref (A 0)), .val (.ref (A 2))] [(.int (1 : Int32))])) (fun _ k => XT.iconstV X2.here hx rfl (1 : Int32) (hb hby d3_14) rfl k) ?_
  refine own_go (B := T2.setTop (mkF m 19 #[.val (.ref (A 0)), .val (.ref (A 2))] [(.int (1 : Int32))])) (fun _ k => XS.goto X2.here hx rfl (pc0 := 15) (pc' := 19) rfl (hb hby d3_15) (by decide) (by decide) k) ?_
  exact own_ret X2 hx (t := .boolean) hrt rfl (Or.inl ⟨rfl, by simp, _, rfl⟩) (hb hby d3_19) hlk ⟨rfl, N0, e2⟩ (by decide) (by decide)
set_option maxRecDepth 65536 in
set_option maxHeartbeats 40000000 in
theorem rm3_5 (l : Launch) (Z : State) (a0 : Array Value) (hw : ∀ d ∈ tables_1, d.before a0 Z = true) (ws : List Jvm.Cond)  (A : Nat → Addr) (hW : own_W Z A) (h0 : Heap) (x0 : Ext Z.heap h0)  :
    own_Met l Z (⟨"com/example/oblate/oblate/Frame", "needsReference", "(Lcom/example/oblate/oblate/Frame;)Z"⟩ : MethodName) prog_11_method_8_code 2 (some .boolean) ws ({ frames := 0, cells := 0, slots := 0, locals := 0 } : Room) #[(.ref (A 3)), (.ref (A 0))] h0 (fun v_ h_ L_ => v_ = some (.int (0 : Int32)) ∧ Fr Z.heap.size L_ ∧ h_ = h0) := by
  refine own_body (plainFor_of_name pn_1) fun p e s m below meth c s₁ hx hby hml hown hnm hlk hrt hZ X0 e0 => ?_
  have N0 := Fr.nil Z.heap.size
  have hW' := hW
  obtain ⟨-, -, -, -, -, -, -, -, -, -, F_GEODETIC_local, -, -, F_ECEF_local, -⟩ := hW'
  refine own_go (B := s₁.setTop (mkF m 0 #[.val (.ref (A 3)), .val (.ref (A 0))] [])) (fun t k => castTop (ef_3 m (A 3) (A 0)) k) ?_
  refine own_go (B := s₁.setTop (mkF m 1 #[.val (.ref (A 3)), .val (.ref (A 0))] [(.ref (A 3))])) (fun _ k => XS.aloadN X0.here hx rfl (hb hby d3_0) rfl rfl k) ?_
  obtain ⟨T1, X1, e1, st1⟩ := getF X0 hx hZ hown (host := "") (Or.inl (hw _ (List.mem_of_getElem? (i := 18) rfl))) Via.refl e0 (F_ECEF_local.ext x0) (g := (mkF m 1 #[.val (.ref (A 3)), .val (.ref (A 0))] [(.ref (A 3))])) rfl rfl (hb hby d3_1)
  refine own_go (B := T1.setTop (mkF m 4 #[.val (.ref (A 3)), .val (.ref (A 0))] [(.int (0 : Int32))])) st1 ?_
  refine own_go (B := T1.setTop (mkF m 7 #[.val (.ref (A 3)), .val (.ref (A 0))] [])) (fun _ k => XS.ifNo X1.here hx rfl (hb hby d3_4) rfl (by decide) k) ?_
  refine own_go (B := T1.setTop (mkF m 8 #[.val (.ref (A 3)), .val (.ref (A 0))] [(.ref (A 0))])) (fun _ k => XS.aloadN X1.here hx rfl (hb hby d3_7) rfl rfl k) ?_
  obtain ⟨T2, X2, e2, st2⟩ := getF X1 hx hZ hown (host := "") (Or.inl (hw _ (List.mem_of_getElem? (i := 18) rfl))) Via.refl e1 (F_GEODETIC_local.ext x0) (g := (mkF m 8 #[.val (.ref (A 3)), .val (.ref (A 0))] [(.ref (A 0))])) rfl rfl (hb hby d3_8)
  refine own_go (B := T2.setTop (mkF m 11 #[.val (.ref (A 3)), .val (.ref (A 0))] [(.int (0 : Int32))])) st2 ?_
  refine own_go (B := T2.setTop (mkF m 18 #[.val (.ref (A 3)), .val (.ref (A 0))] [])) (fun _ k => XS.ifYes X2.here hx rfl (pc0 := 11) (pc' := 18) rfl (hb hby d3_11) rfl (by decide) (by decide) (by decide) k) ?_
  refine own_go (B := T2.setTop (mkF m 19 #[.val (.ref (A 3)), .val (.ref (A 0))] [(.int (0 : Int32))])) (fun _ k => XT.iconstV X2.here hx rfl (0 : Int32) (hb hby d3_18) rfl k) ?_
  exact own_ret X2 hx (t := .boolean) hrt rfl (Or.inl ⟨rfl, by simp, _, rfl⟩) (hb hby d3_19) hlk ⟨rfl, N0, e2⟩ (by decide) (by decide)
set_option maxRecDepth 65536 in
set_option maxHeartbeats 40000000 in
theorem rm3_6 (l : Launch) (Z : State) (a0 : Array Value) (hw : ∀ d ∈ tables_1, d.before a0 Z = true) (ws : List Jvm.Cond)  (A : Nat → Addr) (hW : own_W Z A) (h0 : Heap) (x0 : Ext Z.heap h0)  :
    own_Met l Z (⟨"com/example/oblate/oblate/Frame", "needsReference", "(Lcom/example/oblate/oblate/Frame;)Z"⟩ : MethodName) prog_11_method_8_code 2 (some .boolean) ws ({ frames := 0, cells := 0, slots := 0, locals := 0 } : Room) #[(.ref (A 3)), (.ref (A 3))] h0 (fun v_ h_ L_ => v_ = some (.int (0 : Int32)) ∧ Fr Z.heap.size L_ ∧ h_ = h0) := by
  refine own_body (plainFor_of_name pn_1) fun p e s m below meth c s₁ hx hby hml hown hnm hlk hrt hZ X0 e0 => ?_
  have N0 := Fr.nil Z.heap.size
  have hW' := hW
  obtain ⟨-, -, -, -, -, -, -, -, -, -, -, -, -, F_ECEF_local, -⟩ := hW'
  refine own_go (B := s₁.setTop (mkF m 0 #[.val (.ref (A 3)), .val (.ref (A 3))] [])) (fun t k => castTop (ef_3 m (A 3) (A 3)) k) ?_
  refine own_go (B := s₁.setTop (mkF m 1 #[.val (.ref (A 3)), .val (.ref (A 3))] [(.ref (A 3))])) (fun _ k => XS.aloadN X0.here hx rfl (hb hby d3_0) rfl rfl k) ?_
  obtain ⟨T1, X1, e1, st1⟩ := getF X0 hx hZ hown (host := "") (Or.inl (hw _ (List.mem_of_getElem? (i := 18) rfl))) Via.refl e0 (F_ECEF_local.ext x0) (g := (mkF m 1 #[.val (.ref (A 3)), .val (.ref (A 3))] [(.ref (A 3))])) rfl rfl (hb hby d3_1)
  refine own_go (B := T1.setTop (mkF m 4 #[.val (.ref (A 3)), .val (.ref (A 3))] [(.int (0 : Int32))])) st1 ?_
  refine own_go (B := T1.setTop (mkF m 7 #[.val (.ref (A 3)), .val (.ref (A 3))] [])) (fun _ k => XS.ifNo X1.here hx rfl (hb hby d3_4) rfl (by decide) k) ?_
  refine own_go (B := T1.setTop (mkF m 8 #[.val (.ref (A 3)), .val (.ref (A 3))] [(.ref (A 3))])) (fun _ k => XS.aloadN X1.here hx rfl (hb hby d3_7) rfl rfl k) ?_
  obtain ⟨T2, X2, e2, st2⟩ := getF X1 hx hZ hown (host := "") (Or.inl (hw _ (List.mem_of_getElem? (i := 18) rfl))) Via.refl e1 (F_ECEF_local.ext x0) (g := (mkF m 8 #[.val (.ref (A 3)), .val (.ref (A 3))] [(.ref (A 3))])) rfl rfl (hb hby d3_8)
  refine own_go (B := T2.setTop (mkF m 11 #[.val (.ref (A 3)), .val (.ref (A 3))] [(.int (0 : Int32))])) st2 ?_
  refine own_go (B := T2.setTop (mkF m 18 #[.val (.ref (A 3)), .val (.ref (A 3))] [])) (fun _ k => XS.ifYes X2.here hx rfl (pc0 := 11) (pc' := 18) rfl (hb hby d3_11) rfl (by decide) (by decide) (by decide) k) ?_
  refine own_go (B := T2.setTop (mkF m 19 #[.val (.ref (A 3)), .val (.ref (A 3))] [(.int (0 : Int32))])) (fun _ k => XT.iconstV X2.here hx rfl (0 : Int32) (hb hby d3_18) rfl k) ?_
  exact own_ret X2 hx (t := .boolean) hrt rfl (Or.inl ⟨rfl, by simp, _, rfl⟩) (hb hby d3_19) hlk ⟨rfl, N0, e2⟩ (by decide) (by decide)
set_option maxRecDepth 65536 in
set_option maxHeartbeats 40000000 in
theorem rm3_7 (l : Launch) (Z : State) (a0 : Array Value) (hw : ∀ d ∈ tables_1, d.before a0 Z = true) (ws : List Jvm.Cond)  (A : Nat → Addr) (hW : own_W Z A) (h0 : Heap) (x0 : Ext Z.heap h0)  :
    own_Met l Z (⟨"com/example/oblate/oblate/Frame", "needsReference", "(Lcom/example/oblate/oblate/Frame;)Z"⟩ : MethodName) prog_11_method_8_code 2 (some .boolean) ws ({ frames := 0, cells := 0, slots := 0, locals := 0 } : Room) #[(.ref (A 3)), (.ref (A 4))] h0 (fun v_ h_ L_ => v_ = some (.int (1 : Int32)) ∧ Fr Z.heap.size L_ ∧ h_ = h0) := by
  refine own_body (plainFor_of_name pn_1) fun p e s m below meth c s₁ hx hby hml hown hnm hlk hrt hZ X0 e0 => ?_
  have N0 := Fr.nil Z.heap.size
  have hW' := hW
  obtain ⟨-, -, -, -, -, -, -, -, -, -, -, -, -, F_ECEF_local, F_ENU_local⟩ := hW'
  refine own_go (B := s₁.setTop (mkF m 0 #[.val (.ref (A 3)), .val (.ref (A 4))] [])) (fun t k => castTop (ef_3 m (A 3) (A 4)) k) ?_
  refine own_go (B := s₁.setTop (mkF m 1 #[.val (.ref (A 3)), .val (.ref (A 4))] [(.ref (A 3))])) (fun _ k => XS.aloadN X0.here hx rfl (hb hby d3_0) rfl rfl k) ?_
  obtain ⟨T1, X1, e1, st1⟩ := getF X0 hx hZ hown (host := "") (Or.inl (hw _ (List.mem_of_getElem? (i := 18) rfl))) Via.refl e0 (F_ECEF_local.ext x0) (g := (mkF m 1 #[.val (.ref (A 3)), .val (.ref (A 4))] [(.ref (A 3))])) rfl rfl (hb hby d3_1)
  refine own_go (B := T1.setTop (mkF m 4 #[.val (.ref (A 3)), .val (.ref (A 4))] [(.int (0 : Int32))])) st1 ?_
  refine own_go (B := T1.setTop (mkF m 7 #[.val (.ref (A 3)), .val (.ref (A 4))] [])) (fun _ k => XS.ifNo X1.here hx rfl (hb hby d3_4) rfl (by decide) k) ?_
  refine own_go (B := T1.setTop (mkF m 8 #[.val (.ref (A 3)), .val (.ref (A 4))] [(.ref (A 4))])) (fun _ k => XS.aloadN X1.here hx rfl (hb hby d3_7) rfl rfl k) ?_
  obtain ⟨T2, X2, e2, st2⟩ := getF X1 hx hZ hown (host := "") (Or.inl (hw _ (List.mem_of_getElem? (i := 18) rfl))) Via.refl e1 (F_ENU_local.ext x0) (g := (mkF m 8 #[.val (.ref (A 3)), .val (.ref (A 4))] [(.ref (A 4))])) rfl rfl (hb hby d3_8)
  refine own_go (B := T2.setTop (mkF m 11 #[.val (.ref (A 3)), .val (.ref (A 4))] [(.int (1 : Int32))])) st2 ?_
  refine own_go (B := T2.setTop (mkF m 14 #[.val (.ref (A 3)), .val (.ref (A 4))] [])) (fun _ k => XS.ifNo X2.here hx rfl (hb hby d3_11) rfl (by decide) k) ?_
  refine own_go (B := T2.setTop (mkF m 15 #[.val (.ref (A 3)), .val (.ref (A 4))] [(.int (1 : Int32))])) (fun _ k => XT.iconstV X2.here hx rfl (1 : Int32) (hb hby d3_14) rfl k) ?_
  refine own_go (B := T2.setTop (mkF m 19 #[.val (.ref (A 3)), .val (.ref (A 4))] [(.int (1 : Int32))])) (fun _ k => XS.goto X2.here hx rfl (pc0 := 15) (pc' := 19) rfl (hb hby d3_15) (by decide) (by decide) k) ?_
  exact own_ret X2 hx (t := .boolean) hrt rfl (Or.inl ⟨rfl, by simp, _, rfl⟩) (hb hby d3_19) hlk ⟨rfl, N0, e2⟩ (by decide) (by decide)
set_option maxRecDepth 65536 in
set_option maxHeartbeats 40000000 in
theorem rm3_8 (l : Launch) (Z : State) (a0 : Array Value) (hw : ∀ d ∈ tables_1, d.before a0 Z = true) (ws : List Jvm.Cond)  (A : Nat → Addr) (hW : own_W Z A) (h0 : Heap) (x0 : Ext Z.heap h0)  :
    own_Met l Z (⟨"com/example/oblate/oblate/Frame", "needsReference", "(Lcom/example/oblate/oblate/Frame;)Z"⟩ : MethodName) prog_11_method_8_code 2 (some .boolean) ws ({ frames := 0, cells := 0, slots := 0, locals := 0 } : Room) #[(.ref (A 3)), (.ref (A 1))] h0 (fun v_ h_ L_ => v_ = some (.int (1 : Int32)) ∧ Fr Z.heap.size L_ ∧ h_ = h0) := by
  refine own_body (plainFor_of_name pn_1) fun p e s m below meth c s₁ hx hby hml hown hnm hlk hrt hZ X0 e0 => ?_
  have N0 := Fr.nil Z.heap.size
  have hW' := hW
  obtain ⟨-, -, -, -, -, -, -, -, -, -, -, F_NED_local, -, F_ECEF_local, -⟩ := hW'
  refine own_go (B := s₁.setTop (mkF m 0 #[.val (.ref (A 3)), .val (.ref (A 1))] [])) (fun t k => castTop (ef_3 m (A 3) (A 1)) k) ?_
  refine own_go (B := s₁.setTop (mkF m 1 #[.val (.ref (A 3)), .val (.ref (A 1))] [(.ref (A 3))])) (fun _ k => XS.aloadN X0.here hx rfl (hb hby d3_0) rfl rfl k) ?_
  obtain ⟨T1, X1, e1, st1⟩ := getF X0 hx hZ hown (host := "") (Or.inl (hw _ (List.mem_of_getElem? (i := 18) rfl))) Via.refl e0 (F_ECEF_local.ext x0) (g := (mkF m 1 #[.val (.ref (A 3)), .val (.ref (A 1))] [(.ref (A 3))])) rfl rfl (hb hby d3_1)
  refine own_go (B := T1.setTop (mkF m 4 #[.val (.ref (A 3)), .val (.ref (A 1))] [(.int (0 : Int32))])) st1 ?_
  refine own_go (B := T1.setTop (mkF m 7 #[.val (.ref (A 3)), .val (.ref (A 1))] [])) (fun _ k => XS.ifNo X1.here hx rfl (hb hby d3_4) rfl (by decide) k) ?_
  refine own_go (B := T1.setTop (mkF m 8 #[.val (.ref (A 3)), .val (.ref (A 1))] [(.ref (A 1))])) (fun _ k => XS.aloadN X1.here hx rfl (hb hby d3_7) rfl rfl k) ?_
  obtain ⟨T2, X2, e2, st2⟩ := getF X1 hx hZ hown (host := "") (Or.inl (hw _ (List.mem_of_getElem? (i := 18) rfl))) Via.refl e1 (F_NED_local.ext x0) (g := (mkF m 8 #[.val (.ref (A 3)), .val (.ref (A 1))] [(.ref (A 1))])) rfl rfl (hb hby d3_8)
  refine own_go (B := T2.setTop (mkF m 11 #[.val (.ref (A 3)), .val (.ref (A 1))] [(.int (1 : Int32))])) st2 ?_
  refine own_go (B := T2.setTop (mkF m 14 #[.val (.ref (A 3)), .val (.ref (A 1))] [])) (fun _ k => XS.ifNo X2.here hx rfl (hb hby d3_11) rfl (by decide) k) ?_
  refine own_go (B := T2.setTop (mkF m 15 #[.val (.ref (A 3)), .val (.ref (A 1))] [(.int (1 : Int32))])) (fun _ k => XT.iconstV X2.here hx rfl (1 : Int32) (hb hby d3_14) rfl k) ?_
  refine own_go (B := T2.setTop (mkF m 19 #[.val (.ref (A 3)), .val (.ref (A 1))] [(.int (1 : Int32))])) (fun _ k => XS.goto X2.here hx rfl (pc0 := 15) (pc' := 19) rfl (hb hby d3_15) (by decide) (by decide) k) ?_
  exact own_ret X2 hx (t := .boolean) hrt rfl (Or.inl ⟨rfl, by simp, _, rfl⟩) (hb hby d3_19) hlk ⟨rfl, N0, e2⟩ (by decide) (by decide)
set_option maxRecDepth 65536 in
set_option maxHeartbeats 40000000 in
theorem rm3_9 (l : Launch) (Z : State) (a0 : Array Value) (hw : ∀ d ∈ tables_1, d.before a0 Z = true) (ws : List Jvm.Cond)  (A : Nat → Addr) (hW : own_W Z A) (h0 : Heap) (x0 : Ext Z.heap h0)  :
    own_Met l Z (⟨"com/example/oblate/oblate/Frame", "needsReference", "(Lcom/example/oblate/oblate/Frame;)Z"⟩ : MethodName) prog_11_method_8_code 2 (some .boolean) ws ({ frames := 0, cells := 0, slots := 0, locals := 0 } : Room) #[(.ref (A 3)), (.ref (A 2))] h0 (fun v_ h_ L_ => v_ = some (.int (1 : Int32)) ∧ Fr Z.heap.size L_ ∧ h_ = h0) := by
  refine own_body (plainFor_of_name pn_1) fun p e s m below meth c s₁ hx hby hml hown hnm hlk hrt hZ X0 e0 => ?_
  have N0 := Fr.nil Z.heap.size
  have hW' := hW
  obtain ⟨-, -, -, -, -, -, -, -, -, -, -, -, F_AER_local, F_ECEF_local, -⟩ := hW'
  refine own_go (B := s₁.setTop (mkF m 0 #[.val (.ref (A 3)), .val (.ref (A 2))] [])) (fun t k => castTop (ef_3 m (A 3) (A 2)) k) ?_
  refine own_go (B := s₁.setTop (mkF m 1 #[.val (.ref (A 3)), .val (.ref (A 2))] [(.ref (A 3))])) (fun _ k => XS.aloadN X0.here hx rfl (hb hby d3_0) rfl rfl k) ?_
  obtain ⟨T1, X1, e1, st1⟩ := getF X0 hx hZ hown (host := "") (Or.inl (hw _ (List.mem_of_getElem? (i := 18) rfl))) Via.refl e0 (F_ECEF_local.ext x0) (g := (mkF m 1 #[.val (.ref (A 3)), .val (.ref (A 2))] [(.ref (A 3))])) rfl rfl (hb hby d3_1)
  refine own_go (B := T1.setTop (mkF m 4 #[.val (.ref (A 3)), .val (.ref (A 2))] [(.int (0 : Int32))])) st1 ?_
  refine own_go (B := T1.setTop (mkF m 7 #[.val (.ref (A 3)), .val (.ref (A 2))] [])) (fun _ k => XS.ifNo X1.here hx rfl (hb hby d3_4) rfl (by decide) k) ?_
  refine own_go (B := T1.setTop (mkF m 8 #[.val (.ref (A 3)), .val (.ref (A 2))] [(.ref (A 2))])) (fun _ k => XS.aloadN X1.here hx rfl (hb hby d3_7) rfl rfl k) ?_
  obtain ⟨T2, X2, e2, st2⟩ := getF X1 hx hZ hown (host := "") (Or.inl (hw _ (List.mem_of_getElem? (i := 18) rfl))) Via.refl e1 (F_AER_local.ext x0) (g := (mkF m 8 #[.val (.ref (A 3)), .val (.ref (A 2))] [(.ref (A 2))])) rfl rfl (hb hby d3_8)
  refine own_go (B := T2.setTop (mkF m 11 #[.val (.ref (A 3)), .val (.ref (A 2))] [(.int (1 : Int32))])) st2 ?_
  refine own_go (B := T2.setTop (mkF m 14 #[.val (.ref (A 3)), .val (.ref (A 2))] [])) (fun _ k => XS.ifNo X2.here hx rfl (hb hby d3_11) rfl (by decide) k) ?_
  refine own_go (B := T2.setTop (mkF m 15 #[.val (.ref (A 3)), .val (.ref (A 2))] [(.int (1 : Int32))])) (fun _ k => XT.iconstV X2.here hx rfl (1 : Int32) (hb hby d3_14) rfl k) ?_
  refine own_go (B := T2.setTop (mkF m 19 #[.val (.ref (A 3)), .val (.ref (A 2))] [(.int (1 : Int32))])) (fun _ k => XS.goto X2.here hx rfl (pc0 := 15) (pc' := 19) rfl (hb hby d3_15) (by decide) (by decide) k) ?_
  exact own_ret X2 hx (t := .boolean) hrt rfl (Or.inl ⟨rfl, by simp, _, rfl⟩) (hb hby d3_19) hlk ⟨rfl, N0, e2⟩ (by decide) (by decide)
set_option maxRecDepth 65536 in
set_option maxHeartbeats 40000000 in
theorem rm3_10 (l : Launch) (Z : State) (a0 : Array Value) (hw : ∀ d ∈ tables_1, d.before a0 Z = true) (ws : List Jvm.Cond)  (A : Nat → Addr) (hW : own_W Z A) (h0 : Heap) (x0 : Ext Z.heap h0)  :
    own_Met l Z (⟨"com/example/oblate/oblate/Frame", "needsReference", "(Lcom/example/oblate/oblate/Frame;)Z"⟩ : MethodName) prog_11_method_8_code 2 (some .boolean) ws ({ frames := 0, cells := 0, slots := 0, locals := 0 } : Room) #[(.ref (A 4)), (.ref (A 0))] h0 (fun v_ h_ L_ => v_ = some (.int (1 : Int32)) ∧ Fr Z.heap.size L_ ∧ h_ = h0) := by
  refine own_body (plainFor_of_name pn_1) fun p e s m below meth c s₁ hx hby hml hown hnm hlk hrt hZ X0 e0 => ?_
  have N0 := Fr.nil Z.heap.size
  have hW' := hW
  obtain ⟨-, -, -, -, -, -, -, -, -, -, -, -, -, -, F_ENU_local⟩ := hW'
  refine own_go (B := s₁.setTop (mkF m 0 #[.val (.ref (A 4)), .val (.ref (A 0))] [])) (fun t k => castTop (ef_3 m (A 4) (A 0)) k) ?_
  refine own_go (B := s₁.setTop (mkF m 1 #[.val (.ref (A 4)), .val (.ref (A 0))] [(.ref (A 4))])) (fun _ k => XS.aloadN X0.here hx rfl (hb hby d3_0) rfl rfl k) ?_
  obtain ⟨T1, X1, e1, st1⟩ := getF X0 hx hZ hown (host := "") (Or.inl (hw _ (List.mem_of_getElem? (i := 18) rfl))) Via.refl e0 (F_ENU_local.ext x0) (g := (mkF m 1 #[.val (.ref (A 4)), .val (.ref (A 0))] [(.ref (A 4))])) rfl rfl (hb hby d3_1)
  refine own_go (B := T1.setTop (mkF m 4 #[.val (.ref (A 4)), .val (.ref (A 0))] [(.int (1 : Int32))])) st1 ?_
  refine own_go (B := T1.setTop (mkF m 14 #[.val (.ref (A 4)), .val (.ref (A 0))] [])) (fun _ k => XS.ifYes X1.here hx rfl (pc0 := 4) (pc' := 14) rfl (hb hby d3_4) rfl (by decide) (by decide) (by decide) k) ?_
  refine own_go (B := T1.setTop (mkF m 15 #[.val (.ref (A 4)), .val (.ref (A 0))] [(.int (1 : Int32))])) (fun _ k => XT.iconstV X1.here hx rfl (1 : Int32) (hb hby d3_14) rfl k) ?_
  refine own_go (B := T1.setTop (mkF m 19 #[.val (.ref (A 4)), .val (.ref (A 0))] [(.int (1 : Int32))])) (fun _ k => XS.goto X1.here hx rfl (pc0 := 15) (pc' := 19) rfl (hb hby d3_15) (by decide) (by decide) k) ?_
  exact own_ret X1 hx (t := .boolean) hrt rfl (Or.inl ⟨rfl, by simp, _, rfl⟩) (hb hby d3_19) hlk ⟨rfl, N0, e1⟩ (by decide) (by decide)
set_option maxRecDepth 65536 in
set_option maxHeartbeats 40000000 in
theorem rm3_11 (l : Launch) (Z : State) (a0 : Array Value) (hw : ∀ d ∈ tables_1, d.before a0 Z = true) (ws : List Jvm.Cond)  (A : Nat → Addr) (hW : own_W Z A) (h0 : Heap) (x0 : Ext Z.heap h0)  :
    own_Met l Z (⟨"com/example/oblate/oblate/Frame", "needsReference", "(Lcom/example/oblate/oblate/Frame;)Z"⟩ : MethodName) prog_11_method_8_code 2 (some .boolean) ws ({ frames := 0, cells := 0, slots := 0, locals := 0 } : Room) #[(.ref (A 4)), (.ref (A 3))] h0 (fun v_ h_ L_ => v_ = some (.int (1 : Int32)) ∧ Fr Z.heap.size L_ ∧ h_ = h0) := by
  refine own_body (plainFor_of_name pn_1) fun p e s m below meth c s₁ hx hby hml hown hnm hlk hrt hZ X0 e0 => ?_
  have N0 := Fr.nil Z.heap.size
  have hW' := hW
  obtain ⟨-, -, -, -, -, -, -, -, -, -, -, -, -, -, F_ENU_local⟩ := hW'
  refine own_go (B := s₁.setTop (mkF m 0 #[.val (.ref (A 4)), .val (.ref (A 3))] [])) (fun t k => castTop (ef_3 m (A 4) (A 3)) k) ?_
  refine own_go (B := s₁.setTop (mkF m 1 #[.val (.ref (A 4)), .val (.ref (A 3))] [(.ref (A 4))])) (fun _ k => XS.aloadN X0.here hx rfl (hb hby d3_0) rfl rfl k) ?_
  obtain ⟨T1, X1, e1, st1⟩ := getF X0 hx hZ hown (host := "") (Or.inl (hw _ (List.mem_of_getElem? (i := 18) rfl))) Via.refl e0 (F_ENU_local.ext x0) (g := (mkF m 1 #[.val (.ref (A 4)), .val (.ref (A 3))] [(.ref (A 4))])) rfl rfl (hb hby d3_1)
  refine own_go (B := T1.setTop (mkF m 4 #[.val (.ref (A 4)), .val (.ref (A 3))] [(.int (1 : Int32))])) st1 ?_
  refine own_go (B := T1.setTop (mkF m 14 #[.val (.ref (A 4)), .val (.ref (A 3))] [])) (fun _ k => XS.ifYes X1.here hx rfl (pc0 := 4) (pc' := 14) rfl (hb hby d3_4) rfl (by decide) (by decide) (by decide) k) ?_
  refine own_go (B := T1.setTop (mkF m 15 #[.val (.ref (A 4)), .val (.ref (A 3))] [(.int (1 : Int32))])) (fun _ k => XT.iconstV X1.here hx rfl (1 : Int32) (hb hby d3_14) rfl k) ?_
  refine own_go (B := T1.setTop (mkF m 19 #[.val (.ref (A 4)), .val (.ref (A 3))] [(.int (1 : Int32))])) (fun _ k => XS.goto X1.here hx rfl (pc0 := 15) (pc' := 19) rfl (hb hby d3_15) (by decide) (by decide) k) ?_
  exact own_ret X1 hx (t := .boolean) hrt rfl (Or.inl ⟨rfl, by simp, _, rfl⟩) (hb hby d3_19) hlk ⟨rfl, N0, e1⟩ (by decide) (by decide)
set_option maxRecDepth 65536 in
set_option maxHeartbeats 40000000 in
theorem rm3_12 (l : Launch) (Z : State) (a0 : Array Value) (hw : ∀ d ∈ tables_1, d.before a0 Z = true) (ws : List Jvm.Cond)  (A : Nat → Addr) (hW : own_W Z A) (h0 : Heap) (x0 : Ext Z.heap h0)  :
    own_Met l Z (⟨"com/example/oblate/oblate/Frame", "needsReference", "(Lcom/example/oblate/oblate/Frame;)Z"⟩ : MethodName) prog_11_method_8_code 2 (some .boolean) ws ({ frames := 0, cells := 0, slots := 0, locals := 0 } : Room) #[(.ref (A 4)), (.ref (A 4))] h0 (fun v_ h_ L_ => v_ = some (.int (1 : Int32)) ∧ Fr Z.heap.size L_ ∧ h_ = h0) := by
  refine own_body (plainFor_of_name pn_1) fun p e s m below meth c s₁ hx hby hml hown hnm hlk hrt hZ X0 e0 => ?_
  have N0 := Fr.nil Z.heap.size
  have hW' := hW
  obtain ⟨-, -, -, -, -, -, -, -, -, -, -, -, -, -, F_ENU_local⟩ := hW'
  refine own_go (B := s₁.setTop (mkF m 0 #[.val (.ref (A 4)), .val (.ref (A 4))] [])) (fun t k => castTop (ef_3 m (A 4) (A 4)) k) ?_
  refine own_go (B := s₁.setTop (mkF m 1 #[.val (.ref (A 4)), .val (.ref (A 4))] [(.ref (A 4))])) (fun _ k => XS.aloadN X0.here hx rfl (hb hby d3_0) rfl rfl k) ?_
  obtain ⟨T1, X1, e1, st1⟩ := getF X0 hx hZ hown (host := "") (Or.inl (hw _ (List.mem_of_getElem? (i := 18) rfl))) Via.refl e0 (F_ENU_local.ext x0) (g := (mkF m 1 #[.val (.ref (A 4)), .val (.ref (A 4))] [(.ref (A 4))])) rfl rfl (hb hby d3_1)
  refine own_go (B := T1.setTop (mkF m 4 #[.val (.ref (A 4)), .val (.ref (A 4))] [(.int (1 : Int32))])) st1 ?_
  refine own_go (B := T1.setTop (mkF m 14 #[.val (.ref (A 4)), .val (.ref (A 4))] [])) (fun _ k => XS.ifYes X1.here hx rfl (pc0 := 4) (pc' := 14) rfl (hb hby d3_4) rfl (by decide) (by decide) (by decide) k) ?_
  refine own_go (B := T1.setTop (mkF m 15 #[.val (.ref (A 4)), .val (.ref (A 4))] [(.int (1 : Int32))])) (fun _ k => XT.iconstV X1.here hx rfl (1 : Int32) (hb hby d3_14) rfl k) ?_
  refine own_go (B := T1.setTop (mkF m 19 #[.val (.ref (A 4)), .val (.ref (A 4))] [(.int (1 : Int32))])) (fun _ k => XS.goto X1.here hx rfl (pc0 := 15) (pc' := 19) rfl (hb hby d3_15) (by decide) (by decide) k) ?_
  exact own_ret X1 hx (t := .boolean) hrt rfl (Or.inl ⟨rfl, by simp, _, rfl⟩) (hb hby d3_19) hlk ⟨rfl, N0, e1⟩ (by decide) (by decide)
set_option maxRecDepth 65536 in
set_option maxHeartbeats 40000000 in
theorem rm3_13 (l : Launch) (Z : State) (a0 : Array Value) (hw : ∀ d ∈ tables_1, d.before a0 Z = true) (ws : List Jvm.Cond)  (A : Nat → Addr) (hW : own_W Z A) (h0 : Heap) (x0 : Ext Z.heap h0)  :
    own_Met l Z (⟨"com/example/oblate/oblate/Frame", "needsReference", "(Lcom/example/oblate/oblate/Frame;)Z"⟩ : MethodName) prog_11_method_8_code 2 (some .boolean) ws ({ frames := 0, cells := 0, slots := 0, locals := 0 } : Room) #[(.ref (A 4)), (.ref (A 1))] h0 (fun v_ h_ L_ => v_ = some (.int (1 : Int32)) ∧ Fr Z.heap.size L_ ∧ h_ = h0) := by
  refine own_body (plainFor_of_name pn_1) fun p e s m below meth c s₁ hx hby hml hown hnm hlk hrt hZ X0 e0 => ?_
  have N0 := Fr.nil Z.heap.size
  have hW' := hW
  obtain ⟨-, -, -, -, -, -, -, -, -, -, -, -, -, -, F_ENU_local⟩ := hW'
  refine own_go (B := s₁.setTop (mkF m 0 #[.val (.ref (A 4)), .val (.ref (A 1))] [])) (fun t k => castTop (ef_3 m (A 4) (A 1)) k) ?_
  refine own_go (B := s₁.setTop (mkF m 1 #[.val (.ref (A 4)), .val (.ref (A 1))] [(.ref (A 4))])) (fun _ k => XS.aloadN X0.here hx rfl (hb hby d3_0) rfl rfl k) ?_
  obtain ⟨T1, X1, e1, st1⟩ := getF X0 hx hZ hown (host := "") (Or.inl (hw _ (List.mem_of_getElem? (i := 18) rfl))) Via.refl e0 (F_ENU_local.ext x0) (g := (mkF m 1 #[.val (.ref (A 4)), .val (.ref (A 1))] [(.ref (A 4))])) rfl rfl (hb hby d3_1)
  refine own_go (B := T1.setTop (mkF m 4 #[.val (.ref (A 4)), .val (.ref (A 1))] [(.int (1 : Int32))])) st1 ?_
  refine own_go (B := T1.setTop (mkF m 14 #[.val (.ref (A 4)), .val (.ref (A 1))] [])) (fun _ k => XS.ifYes X1.here hx rfl (pc0 := 4) (pc' := 14) rfl (hb hby d3_4) rfl (by decide) (by decide) (by decide) k) ?_
  refine own_go (B := T1.setTop (mkF m 15 #[.val (.ref (A 4)), .val (.ref (A 1))] [(.int (1 : Int32))])) (fun _ k => XT.iconstV X1.here hx rfl (1 : Int32) (hb hby d3_14) rfl k) ?_
  refine own_go (B := T1.setTop (mkF m 19 #[.val (.ref (A 4)), .val (.ref (A 1))] [(.int (1 : Int32))])) (fun _ k => XS.goto X1.here hx rfl (pc0 := 15) (pc' := 19) rfl (hb hby d3_15) (by decide) (by decide) k) ?_
  exact own_ret X1 hx (t := .boolean) hrt rfl (Or.inl ⟨rfl, by simp, _, rfl⟩) (hb hby d3_19) hlk ⟨rfl, N0, e1⟩ (by decide) (by decide)
set_option maxRecDepth 65536 in
set_option maxHeartbeats 40000000 in
theorem rm3_14 (l : Launch) (Z : State) (a0 : Array Value) (hw : ∀ d ∈ tables_1, d.before a0 Z = true) (ws : List Jvm.Cond)  (A : Nat → Addr) (hW : own_W Z A) (h0 : Heap) (x0 : Ext Z.heap h0)  :
    own_Met l Z (⟨"com/example/oblate/oblate/Frame", "needsReference", "(Lcom/example/oblate/oblate/Frame;)Z"⟩ : MethodName) prog_11_method_8_code 2 (some .boolean) ws ({ frames := 0, cells := 0, slots := 0, locals := 0 } : Room) #[(.ref (A 4)), (.ref (A 2))] h0 (fun v_ h_ L_ => v_ = some (.int (1 : Int32)) ∧ Fr Z.heap.size L_ ∧ h_ = h0) := by
  refine own_body (plainFor_of_name pn_1) fun p e s m below meth c s₁ hx hby hml hown hnm hlk hrt hZ X0 e0 => ?_
  have N0 := Fr.nil Z.heap.size
  have hW' := hW
  obtain ⟨-, -, -, -, -, -, -, -, -, -, -, -, -, -, F_ENU_local⟩ := hW'
  refine own_go (B := s₁.setTop (mkF m 0 #[.val (.ref (A 4)), .val (.ref (A 2))] [])) (fun t k => castTop (ef_3 m (A 4) (A 2)) k) ?_
  refine own_go (B := s₁.setTop (mkF m 1 #[.val (.ref (A 4)), .val (.ref (A 2))] [(.ref (A 4))])) (fun _ k => XS.aloadN X0.here hx rfl (hb hby d3_0) rfl rfl k) ?_
  obtain ⟨T1, X1, e1, st1⟩ := getF X0 hx hZ hown (host := "") (Or.inl (hw _ (List.mem_of_getElem? (i := 18) rfl))) Via.refl e0 (F_ENU_local.ext x0) (g := (mkF m 1 #[.val (.ref (A 4)), .val (.ref (A 2))] [(.ref (A 4))])) rfl rfl (hb hby d3_1)
  refine own_go (B := T1.setTop (mkF m 4 #[.val (.ref (A 4)), .val (.ref (A 2))] [(.int (1 : Int32))])) st1 ?_
  refine own_go (B := T1.setTop (mkF m 14 #[.val (.ref (A 4)), .val (.ref (A 2))] [])) (fun _ k => XS.ifYes X1.here hx rfl (pc0 := 4) (pc' := 14) rfl (hb hby d3_4) rfl (by decide) (by decide) (by decide) k) ?_
  refine own_go (B := T1.setTop (mkF m 15 #[.val (.ref (A 4)), .val (.ref (A 2))] [(.int (1 : Int32))])) (fun _ k => XT.iconstV X1.here hx rfl (1 : Int32) (hb hby d3_14) rfl k) ?_
  refine own_go (B := T1.setTop (mkF m 19 #[.val (.ref (A 4)), .val (.ref (A 2))] [(.int (1 : Int32))])) (fun _ k => XS.goto X1.here hx rfl (pc0 := 15) (pc' := 19) rfl (hb hby d3_15) (by decide) (by decide) k) ?_
  exact own_ret X1 hx (t := .boolean) hrt rfl (Or.inl ⟨rfl, by simp, _, rfl⟩) (hb hby d3_19) hlk ⟨rfl, N0, e1⟩ (by decide) (by decide)
set_option maxRecDepth 65536 in
set_option maxHeartbeats 40000000 in
theorem rm3_15 (l : Launch) (Z : State) (a0 : Array Value) (hw : ∀ d ∈ tables_1, d.before a0 Z = true) (ws : List Jvm.Cond)  (A : Nat → Addr) (hW : own_W Z A) (h0 : Heap) (x0 : Ext Z.heap h0)  :
    own_Met l Z (⟨"com/example/oblate/oblate/Frame", "needsReference", "(Lcom/example/oblate/oblate/Frame;)Z"⟩ : MethodName) prog_11_method_8_code 2 (some .boolean) ws ({ frames := 0, cells := 0, slots := 0, locals := 0 } : Room) #[(.ref (A 1)), (.ref (A 0))] h0 (fun v_ h_ L_ => v_ = some (.int (1 : Int32)) ∧ Fr Z.heap.size L_ ∧ h_ = h0) := by
  refine own_body (plainFor_of_name pn_1) fun p e s m below meth c s₁ hx hby hml hown hnm hlk hrt hZ X0 e0 => ?_
  have N0 := Fr.nil Z.heap.size
  have hW' := hW
  obtain ⟨-, -, -, -, -, -, -, -, -, -, -, F_NED_local, -, -, -⟩ := hW'
  refine own_go (B := s₁.setTop (mkF m 0 #[.val (.ref (A 1)), .val (.ref (A 0))] [])) (fun t k => castTop (ef_3 m (A 1) (A 0)) k) ?_
  refine own_go (B := s₁.setTop (mkF m 1 #[.val (.ref (A 1)), .val (.ref (A 0))] [(.ref (A 1))])) (fun _ k => XS.aloadN X0.here hx rfl (hb hby d3_0) rfl rfl k) ?_
  obtain ⟨T1, X1, e1, st1⟩ := getF X0 hx hZ hown (host := "") (Or.inl (hw _ (List.mem_of_getElem? (i := 18) rfl))) Via.refl e0 (F_NED_local.ext x0) (g := (mkF m 1 #[.val (.ref (A 1)), .val (.ref (A 0))] [(.ref (A 1))])) rfl rfl (hb hby d3_1)
  refine own_go (B := T1.setTop (mkF m 4 #[.val (.ref (A 1)), .val (.ref (A 0))] [(.int (1 : Int32))])) st1 ?_
  refine own_go (B := T1.setTop (mkF m 14 #[.val (.ref (A 1)), .val (.ref (A 0))] [])) (fun _ k => XS.ifYes X1.here hx rfl (pc0 := 4) (pc' := 14) rfl (hb hby d3_4) rfl (by decide) (by decide) (by decide) k) ?_
  refine own_go (B := T1.setTop (mkF m 15 #[.val (.ref (A 1)), .val (.ref (A 0))] [(.int (1 : Int32))])) (fun _ k => XT.iconstV X1.here hx rfl (1 : Int32) (hb hby d3_14) rfl k) ?_
  refine own_go (B := T1.setTop (mkF m 19 #[.val (.ref (A 1)), .val (.ref (A 0))] [(.int (1 : Int32))])) (fun _ k => XS.goto X1.here hx rfl (pc0 := 15) (pc' := 19) rfl (hb hby d3_15) (by decide) (by decide) k) ?_
  exact own_ret X1 hx (t := .boolean) hrt rfl (Or.inl ⟨rfl, by simp, _, rfl⟩) (hb hby d3_19) hlk ⟨rfl, N0, e1⟩ (by decide) (by decide)
set_option maxRecDepth 65536 in
set_option maxHeartbeats 40000000 in
theorem rm3_16 (l : Launch) (Z : State) (a0 : Array Value) (hw : ∀ d ∈ tables_1, d.before a0 Z = true) (ws : List Jvm.Cond)  (A : Nat → Addr) (hW : own_W Z A) (h0 : Heap) (x0 : Ext Z.heap h0)  :
    own_Met l Z (⟨"com/example/oblate/oblate/Frame", "needsReference", "(Lcom/example/oblate/oblate/Frame;)Z"⟩ : MethodName) prog_11_method_8_code 2 (some .boolean) ws ({ frames := 0, cells := 0, slots := 0, locals := 0 } : Room) #[(.ref (A 1)), (.ref (A 3))] h0 (fun v_ h_ L_ => v_ = some (.int (1 : Int32)) ∧ Fr Z.heap.size L_ ∧ h_ = h0) := by
  refine own_body (plainFor_of_name pn_1) fun p e s m below meth c s₁ hx hby hml hown hnm hlk hrt hZ X0 e0 => ?_
  have N0 := Fr.nil Z.heap.size
  have hW' := hW
  obtain ⟨-, -, -, -, -, -, -, -, -, -, -, F_NED_local, -, -, -⟩ := hW'
  refine own_go (B := s₁.setTop (mkF m 0 #[.val (.ref (A 1)), .val (.ref (A 3))] [])) (fun t k => castTop (ef_3 m (A 1) (A 3)) k) ?_
  refine own_go (B := s₁.setTop (mkF m 1 #[.val (.ref (A 1)), .val (.ref (A 3))] [(.ref (A 1))])) (fun _ k => XS.aloadN X0.here hx rfl (hb hby d3_0) rfl rfl k) ?_
  obtain ⟨T1, X1, e1, st1⟩ := getF X0 hx hZ hown (host := "") (Or.inl (hw _ (List.mem_of_getElem? (i := 18) rfl))) Via.refl e0 (F_NED_local.ext x0) (g := (mkF m 1 #[.val (.ref (A 1)), .val (.ref (A 3))] [(.ref (A 1))])) rfl rfl (hb hby d3_1)
  refine own_go (B := T1.setTop (mkF m 4 #[.val (.ref (A 1)), .val (.ref (A 3))] [(.int (1 : Int32))])) st1 ?_
  refine own_go (B := T1.setTop (mkF m 14 #[.val (.ref (A 1)), .val (.ref (A 3))] [])) (fun _ k => XS.ifYes X1.here hx rfl (pc0 := 4) (pc' := 14) rfl (hb hby d3_4) rfl (by decide) (by decide) (by decide) k) ?_
  refine own_go (B := T1.setTop (mkF m 15 #[.val (.ref (A 1)), .val (.ref (A 3))] [(.int (1 : Int32))])) (fun _ k => XT.iconstV X1.here hx rfl (1 : Int32) (hb hby d3_14) rfl k) ?_
  refine own_go (B := T1.setTop (mkF m 19 #[.val (.ref (A 1)), .val (.ref (A 3))] [(.int (1 : Int32))])) (fun _ k => XS.goto X1.here hx rfl (pc0 := 15) (pc' := 19) rfl (hb hby d3_15) (by decide) (by decide) k) ?_
  exact own_ret X1 hx (t := .boolean) hrt rfl (Or.inl ⟨rfl, by simp, _, rfl⟩) (hb hby d3_19) hlk ⟨rfl, N0, e1⟩ (by decide) (by decide)
set_option maxRecDepth 65536 in
set_option maxHeartbeats 40000000 in
theorem rm3_17 (l : Launch) (Z : State) (a0 : Array Value) (hw : ∀ d ∈ tables_1, d.before a0 Z = true) (ws : List Jvm.Cond)  (A : Nat → Addr) (hW : own_W Z A) (h0 : Heap) (x0 : Ext Z.heap h0)  :
    own_Met l Z (⟨"com/example/oblate/oblate/Frame", "needsReference", "(Lcom/example/oblate/oblate/Frame;)Z"⟩ : MethodName) prog_11_method_8_code 2 (some .boolean) ws ({ frames := 0, cells := 0, slots := 0, locals := 0 } : Room) #[(.ref (A 1)), (.ref (A 4))] h0 (fun v_ h_ L_ => v_ = some (.int (1 : Int32)) ∧ Fr Z.heap.size L_ ∧ h_ = h0) := by
  refine own_body (plainFor_of_name pn_1) fun p e s m below meth c s₁ hx hby hml hown hnm hlk hrt hZ X0 e0 => ?_
  have N0 := Fr.nil Z.heap.size
  have hW' := hW
  obtain ⟨-, -, -, -, -, -, -, -, -, -, -, F_NED_local, -, -, -⟩ := hW'
  refine own_go (B := s₁.setTop (mkF m 0 #[.val (.ref (A 1)), .val (.ref (A 4))] [])) (fun t k => castTop (ef_3 m (A 1) (A 4)) k) ?_
  refine own_go (B := s₁.setTop (mkF m 1 #[.val (.ref (A 1)), .val (.ref (A 4))] [(.ref (A 1))])) (fun _ k => XS.aloadN X0.here hx rfl (hb hby d3_0) rfl rfl k) ?_
  obtain ⟨T1, X1, e1, st1⟩ := getF X0 hx hZ hown (host := "") (Or.inl (hw _ (List.mem_of_getElem? (i := 18) rfl))) Via.refl e0 (F_NED_local.ext x0) (g := (mkF m 1 #[.val (.ref (A 1)), .val (.ref (A 4))] [(.ref (A 1))])) rfl rfl (hb hby d3_1)
  refine own_go (B := T1.setTop (mkF m 4 #[.val (.ref (A 1)), .val (.ref (A 4))] [(.int (1 : Int32))])) st1 ?_
  refine own_go (B := T1.setTop (mkF m 14 #[.val (.ref (A 1)), .val (.ref (A 4))] [])) (fun _ k => XS.ifYes X1.here hx rfl (pc0 := 4) (pc' := 14) rfl (hb hby d3_4) rfl (by decide) (by decide) (by decide) k) ?_
  refine own_go (B := T1.setTop (mkF m 15 #[.val (.ref (A 1)), .val (.ref (A 4))] [(.int (1 : Int32))])) (fun _ k => XT.iconstV X1.here hx rfl (1 : Int32) (hb hby d3_14) rfl k) ?_
  refine own_go (B := T1.setTop (mkF m 19 #[.val (.ref (A 1)), .val (.ref (A 4))] [(.int (1 : Int32))])) (fun _ k => XS.goto X1.here hx rfl (pc0 := 15) (pc' := 19) rfl (hb hby d3_15) (by decide) (by decide) k) ?_
  exact own_ret X1 hx (t := .boolean) hrt rfl (Or.inl ⟨rfl, by simp, _, rfl⟩) (hb hby d3_19) hlk ⟨rfl, N0, e1⟩ (by decide) (by decide)
set_option maxRecDepth 65536 in
set_option maxHeartbeats 40000000 in
theorem rm3_18 (l : Launch) (Z : State) (a0 : Array Value) (hw : ∀ d ∈ tables_1, d.before a0 Z = true) (ws : List Jvm.Cond)  (A : Nat → Addr) (hW : own_W Z A) (h0 : Heap) (x0 : Ext Z.heap h0)  :
    own_Met l Z (⟨"com/example/oblate/oblate/Frame", "needsReference", "(Lcom/example/oblate/oblate/Frame;)Z"⟩ : MethodName) prog_11_method_8_code 2 (some .boolean) ws ({ frames := 0, cells := 0, slots := 0, locals := 0 } : Room) #[(.ref (A 1)), (.ref (A 1))] h0 (fun v_ h_ L_ => v_ = some (.int (1 : Int32)) ∧ Fr Z.heap.size L_ ∧ h_ = h0) := by
  refine own_body (plainFor_of_name pn_1) fun p e s m below meth c s₁ hx hby hml hown hnm hlk hrt hZ X0 e0 => ?_
  have N0 := Fr.nil Z.heap.size
  have hW' := hW
  obtain ⟨-, -, -, -, -, -, -, -, -, -, -, F_NED_local, -, -, -⟩ := hW'
  refine own_go (B := s₁.setTop (mkF m 0 #[.val (.ref (A 1)), .val (.ref (A 1))] [])) (fun t k => castTop (ef_3 m (A 1) (A 1)) k) ?_
  refine own_go (B := s₁.setTop (mkF m 1 #[.val (.ref (A 1)), .val (.ref (A 1))] [(.ref (A 1))])) (fun _ k => XS.aloadN X0.here hx rfl (hb hby d3_0) rfl rfl k) ?_
  obtain ⟨T1, X1, e1, st1⟩ := getF X0 hx hZ hown (host := "") (Or.inl (hw _ (List.mem_of_getElem? (i := 18) rfl))) Via.refl e0 (F_NED_local.ext x0) (g := (mkF m 1 #[.val (.ref (A 1)), .val (.ref (A 1))] [(.ref (A 1))])) rfl rfl (hb hby d3_1)
  refine own_go (B := T1.setTop (mkF m 4 #[.val (.ref (A 1)), .val (.ref (A 1))] [(.int (1 : Int32))])) st1 ?_
  refine own_go (B := T1.setTop (mkF m 14 #[.val (.ref (A 1)), .val (.ref (A 1))] [])) (fun _ k => XS.ifYes X1.here hx rfl (pc0 := 4) (pc' := 14) rfl (hb hby d3_4) rfl (by decide) (by decide) (by decide) k) ?_
  refine own_go (B := T1.setTop (mkF m 15 #[.val (.ref (A 1)), .val (.ref (A 1))] [(.int (1 : Int32))])) (fun _ k => XT.iconstV X1.here hx rfl (1 : Int32) (hb hby d3_14) rfl k) ?_
  refine own_go (B := T1.setTop (mkF m 19 #[.val (.ref (A 1)), .val (.ref (A 1))] [(.int (1 : Int32))])) (fun _ k => XS.goto X1.here hx rfl (pc0 := 15) (pc' := 19) rfl (hb hby d3_15) (by decide) (by decide) k) ?_
  exact own_ret X1 hx (t := .boolean) hrt rfl (Or.inl ⟨rfl, by simp, _, rfl⟩) (hb hby d3_19) hlk ⟨rfl, N0, e1⟩ (by decide) (by decide)
set_option maxRecDepth 65536 in
set_option maxHeartbeats 40000000 in
theorem rm3_19 (l : Launch) (Z : State) (a0 : Array Value) (hw : ∀ d ∈ tables_1, d.before a0 Z = true) (ws : List Jvm.Cond)  (A : Nat → Addr) (hW : own_W Z A) (h0 : Heap) (x0 : Ext Z.heap h0)  :
    own_Met l Z (⟨"com/example/oblate/oblate/Frame", "needsReference", "(Lcom/example/oblate/oblate/Frame;)Z"⟩ : MethodName) prog_11_method_8_code 2 (some .boolean) ws ({ frames := 0, cells := 0, slots := 0, locals := 0 } : Room) #[(.ref (A 1)), (.ref (A 2))] h0 (fun v_ h_ L_ => v_ = some (.int (1 : Int32)) ∧ Fr Z.heap.size L_ ∧ h_ = h0) := by
  refine own_body (plainFor_of_name pn_1) fun p e s m below meth c s₁ hx hby hml hown hnm hlk hrt hZ X0 e0 => ?_
  have N0 := Fr.nil Z.heap.size
  have hW' := hW
  obtain ⟨-, -, -, -, -, -, -, -, -, -, -, F_NED_local, -, -, -⟩ := hW'
  refine own_go (B := s₁.setTop (mkF m 0 #[.val (.ref (A 1)), .val (.ref (A 2))] [])) (fun t k => castTop (ef_3 m (A 1) (A 2)) k) ?_
  refine own_go (B := s₁.setTop (mkF m 1 #[.val (.ref (A 1)), .val (.ref (A 2))] [(.ref (A 1))])) (fun _ k => XS.aloadN X0.here hx rfl (hb hby d3_0) rfl rfl k) ?_
  obtain ⟨T1, X1, e1, st1⟩ := getF X0 hx hZ hown (host := "") (Or.inl (hw _ (List.mem_of_getElem? (i := 18) rfl))) Via.refl e0 (F_NED_local.ext x0) (g := (mkF m 1 #[.val (.ref (A 1)), .val (.ref (A 2))] [(.ref (A 1))])) rfl rfl (hb hby d3_1)
  refine own_go (B := T1.setTop (mkF m 4 #[.val (.ref (A 1)), .val (.ref (A 2))] [(.int (1 : Int32))])) st1 ?_
  refine own_go (B := T1.setTop (mkF m 14 #[.val (.ref (A 1)), .val (.ref (A 2))] [])) (fun _ k => XS.ifYes X1.here hx rfl (pc0 := 4) (pc' := 14) rfl (hb hby d3_4) rfl (by decide) (by decide) (by decide) k) ?_
  refine own_go (B := T1.setTop (mkF m 15 #[.val (.ref (A 1)), .val (.ref (A 2))] [(.int (1 : Int32))])) (fun _ k => XT.iconstV X1.here hx rfl (1 : Int32) (hb hby d3_14) rfl k) ?_
  refine own_go (B := T1.setTop (mkF m 19 #[.val (.ref (A 1)), .val (.ref (A 2))] [(.int (1 : Int32))])) (fun _ k => XS.goto X1.here hx rfl (pc0 := 15) (pc' := 19) rfl (hb hby d3_15) (by decide) (by decide) k) ?_
  exact own_ret X1 hx (t := .boolean) hrt rfl (Or.inl ⟨rfl, by simp, _, rfl⟩) (hb hby d3_19) hlk ⟨rfl, N0, e1⟩ (by decide) (by decide)
set_option maxRecDepth 65536 in
set_option maxHeartbeats 40000000 in
theorem rm3_20 (l : Launch) (Z : State) (a0 : Array Value) (hw : ∀ d ∈ tables_1, d.before a0 Z = true) (ws : List Jvm.Cond)  (A : Nat → Addr) (hW : own_W Z A) (h0 : Heap) (x0 : Ext Z.heap h0)  :
    own_Met l Z (⟨"com/example/oblate/oblate/Frame", "needsReference", "(Lcom/example/oblate/oblate/Frame;)Z"⟩ : MethodName) prog_11_method_8_code 2 (some .boolean) ws ({ frames := 0, cells := 0, slots := 0, locals := 0 } : Room) #[(.ref (A 2)), (.ref (A 0))] h0 (fun v_ h_ L_ => v_ = some (.int (1 : Int32)) ∧ Fr Z.heap.size L_ ∧ h_ = h0) := by
  refine own_body (plainFor_of_name pn_1) fun p e s m below meth c s₁ hx hby hml hown hnm hlk hrt hZ X0 e0 => ?_
  have N0 := Fr.nil Z.heap.size
  have hW' := hW
  obtain ⟨-, -, -, -, -, -, -, -, -, -, -, -, F_AER_local, -, -⟩ := hW'
  refine own_go (B := s₁.setTop (mkF m 0 #[.val (.ref (A 2)), .val (.ref (A 0))] [])) (fun t k => castTop (ef_3 m (A 2) (A 0)) k) ?_
  refine own_go (B := s₁.setTop (mkF m 1 #[.val (.ref (A 2)), .val (.ref (A 0))] [(.ref (A 2))])) (fun _ k => XS.aloadN X0.here hx rfl (hb hby d3_0) rfl rfl k) ?_
  obtain ⟨T1, X1, e1, st1⟩ := getF X0 hx hZ hown (host := "") (Or.inl (hw _ (List.mem_of_getElem? (i := 18) rfl))) Via.refl e0 (F_AER_local.ext x0) (g := (mkF m 1 #[.val (.ref (A 2)), .val (.ref (A 0))] [(.ref (A 2))])) rfl rfl (hb hby d3_1)
  refine own_go (B := T1.setTop (mkF m 4 #[.val (.ref (A 2)), .val (.ref (A 0))] [(.int (1 : Int32))])) st1 ?_
  refine own_go (B := T1.setTop (mkF m 14 #[.val (.ref (A 2)), .val (.ref (A 0))] [])) (fun _ k => XS.ifYes X1.here hx rfl (pc0 := 4) (pc' := 14) rfl (hb hby d3_4) rfl (by decide) (by decide) (by decide) k) ?_
  refine own_go (B := T1.setTop (mkF m 15 #[.val (.ref (A 2)), .val (.ref (A 0))] [(.int (1 : Int32))])) (fun _ k => XT.iconstV X1.here hx rfl (1 : Int32) (hb hby d3_14) rfl k) ?_
  refine own_go (B := T1.setTop (mkF m 19 #[.val (.ref (A 2)), .val (.ref (A 0))] [(.int (1 : Int32))])) (fun _ k => XS.goto X1.here hx rfl (pc0 := 15) (pc' := 19) rfl (hb hby d3_15) (by decide) (by decide) k) ?_
  exact own_ret X1 hx (t := .boolean) hrt rfl (Or.inl ⟨rfl, by simp, _, rfl⟩) (hb hby d3_19) hlk ⟨rfl, N0, e1⟩ (by decide) (by decide)
set_option maxRecDepth 65536 in
set_option maxHeartbeats 40000000 in
theorem rm3_21 (l : Launch) (Z : State) (a0 : Array Value) (hw : ∀ d ∈ tables_1, d.before a0 Z = true) (ws : List Jvm.Cond)  (A : Nat → Addr) (hW : own_W Z A) (h0 : Heap) (x0 : Ext Z.heap h0)  :
    own_Met l Z (⟨"com/example/oblate/oblate/Frame", "needsReference", "(Lcom/example/oblate/oblate/Frame;)Z"⟩ : MethodName) prog_11_method_8_code 2 (some .boolean) ws ({ frames := 0, cells := 0, slots := 0, locals := 0 } : Room) #[(.ref (A 2)), (.ref (A 3))] h0 (fun v_ h_ L_ => v_ = some (.int (1 : Int32)) ∧ Fr Z.heap.size L_ ∧ h_ = h0) := by
  refine own_body (plainFor_of_name pn_1) fun p e s m below meth c s₁ hx hby hml hown hnm hlk hrt hZ X0 e0 => ?_
  have N0 := Fr.nil Z.heap.size
  have hW' := hW
  obtain ⟨-, -, -, -, -, -, -, -, -, -, -, -, F_AER_local, -, -⟩ := hW'
  refine own_go (B := s₁.setTop (mkF m 0 #[.val (.ref (A 2)), .val (.ref (A 3))] [])) (fun t k => castTop (ef_3 m (A 2) (A 3)) k) ?_
  refine own_go (B := s₁.setTop (mkF m 1 #[.val (.ref (A 2)), .val (.ref (A 3))] [(.ref (A 2))])) (fun _ k => XS.aloadN X0.here hx rfl (hb hby d3_0) rfl rfl k) ?_
  obtain ⟨T1, X1, e1, st1⟩ := getF X0 hx hZ hown (host := "") (Or.inl (hw _ (List.mem_of_getElem? (i := 18) rfl))) Via.refl e0 (F_AER_local.ext x0) (g := (mkF m 1 #[.val (.ref (A 2)), .val (.ref (A 3))] [(.ref (A 2))])) rfl rfl (hb hby d3_1)
  refine own_go (B := T1.setTop (mkF m 4 #[.val (.ref (A 2)), .val (.ref (A 3))] [(.int (1 : Int32))])) st1 ?_
  refine own_go (B := T1.setTop (mkF m 14 #[.val (.ref (A 2)), .val (.ref (A 3))] [])) (fun _ k => XS.ifYes X1.here hx rfl (pc0 := 4) (pc' := 14) rfl (hb hby d3_4) rfl (by decide) (by decide) (by decide) k) ?_
  refine own_go (B := T1.setTop (mkF m 15 #[.val (.ref (A 2)), .val (.ref (A 3))] [(.int (1 : Int32))])) (fun _ k => XT.iconstV X1.here hx rfl (1 : Int32) (hb hby d3_14) rfl k) ?_
  refine own_go (B := T1.setTop (mkF m 19 #[.val (.ref (A 2)), .val (.ref (A 3))] [(.int (1 : Int32))])) (fun _ k => XS.goto X1.here hx rfl (pc0 := 15) (pc' := 19) rfl (hb hby d3_15) (by decide) (by decide) k) ?_
  exact own_ret X1 hx (t := .boolean) hrt rfl (Or.inl ⟨rfl, by simp, _, rfl⟩) (hb hby d3_19) hlk ⟨rfl, N0, e1⟩ (by decide) (by decide)
set_option maxRecDepth 65536 in
set_option maxHeartbeats 40000000 in
theorem rm3_22 (l : Launch) (Z : State) (a0 : Array Value) (hw : ∀ d ∈ tables_1, d.before a0 Z = true) (ws : List Jvm.Cond)  (A : Nat → Addr) (hW : own_W Z A) (h0 : Heap) (x0 : Ext Z.heap h0)  :
    own_Met l Z (⟨"com/example/oblate/oblate/Frame", "needsReference", "(Lcom/example/oblate/oblate/Frame;)Z"⟩ : MethodName) prog_11_method_8_code 2 (some .boolean) ws ({ frames := 0, cells := 0, slots := 0, locals := 0 } : Room) #[(.ref (A 2)), (.ref (A 4))] h0 (fun v_ h_ L_ => v_ = some (.int (1 : Int32)) ∧ Fr Z.heap.size L_ ∧ h_ = h0) := by
  refine own_body (plainFor_of_name pn_1) fun p e s m below meth c s₁ hx hby hml hown hnm hlk hrt hZ X0 e0 => ?_
  have N0 := Fr.nil Z.heap.size
  have hW' := hW
  obtain ⟨-, -, -, -, -, -, -, -, -, -, -, -, F_AER_local, -, -⟩ := hW'
  refine own_go (B := s₁.setTop (mkF m 0 #[.val (.ref (A 2)), .val (.ref (A 4))] [])) (fun t k => castTop (ef_3 m (A 2) (A 4)) k) ?_
  refine own_go (B := s₁.setTop (mkF m 1 #[.val (.ref (A 2)), .val (.ref (A 4))] [(.ref (A 2))])) (fun _ k => XS.aloadN X0.here hx rfl (hb hby d3_0) rfl rfl k) ?_
  obtain ⟨T1, X1, e1, st1⟩ := getF X0 hx hZ hown (host := "") (Or.inl (hw _ (List.mem_of_getElem? (i := 18) rfl))) Via.refl e0 (F_AER_local.ext x0) (g := (mkF m 1 #[.val (.ref (A 2)), .val (.ref (A 4))] [(.ref (A 2))])) rfl rfl (hb hby d3_1)
  refine own_go (B := T1.setTop (mkF m 4 #[.val (.ref (A 2)), .val (.ref (A 4))] [(.int (1 : Int32))])) st1 ?_
  refine own_go (B := T1.setTop (mkF m 14 #[.val (.ref (A 2)), .val (.ref (A 4))] [])) (fun _ k => XS.ifYes X1.here hx rfl (pc0 := 4) (pc' := 14) rfl (hb hby d3_4) rfl (by decide) (by decide) (by decide) k) ?_
  refine own_go (B := T1.setTop (mkF m 15 #[.val (.ref (A 2)), .val (.ref (A 4))] [(.int (1 : Int32))])) (fun _ k => XT.iconstV X1.here hx rfl (1 : Int32) (hb hby d3_14) rfl k) ?_
  refine own_go (B := T1.setTop (mkF m 19 #[.val (.ref (A 2)), .val (.ref (A 4))] [(.int (1 : Int32))])) (fun _ k => XS.goto X1.here hx rfl (pc0 := 15) (pc' := 19) rfl (hb hby d3_15) (by decide) (by decide) k) ?_
  exact own_ret X1 hx (t := .boolean) hrt rfl (Or.inl ⟨rfl, by simp, _, rfl⟩) (hb hby d3_19) hlk ⟨rfl, N0, e1⟩ (by decide) (by decide)
set_option maxRecDepth 65536 in
set_option maxHeartbeats 40000000 in
theorem rm3_23 (l : Launch) (Z : State) (a0 : Array Value) (hw : ∀ d ∈ tables_1, d.before a0 Z = true) (ws : List Jvm.Cond)  (A : Nat → Addr) (hW : own_W Z A) (h0 : Heap) (x0 : Ext Z.heap h0)  :
    own_Met l Z (⟨"com/example/oblate/oblate/Frame", "needsReference", "(Lcom/example/oblate/oblate/Frame;)Z"⟩ : MethodName) prog_11_method_8_code 2 (some .boolean) ws ({ frames := 0, cells := 0, slots := 0, locals := 0 } : Room) #[(.ref (A 2)), (.ref (A 1))] h0 (fun v_ h_ L_ => v_ = some (.int (1 : Int32)) ∧ Fr Z.heap.size L_ ∧ h_ = h0) := by
  refine own_body (plainFor_of_name pn_1) fun p e s m below meth c s₁ hx hby hml hown hnm hlk hrt hZ X0 e0 => ?_
  have N0 := Fr.nil Z.heap.size
  have hW' := hW
  obtain ⟨-, -, -, -, -, -, -, -, -, -, -, -, F_AER_local, -, -⟩ := hW'
  refine own_go (B := s₁.setTop (mkF m 0 #[.val (.ref (A 2)), .val (.ref (A 1))] [])) (fun t k => castTop (ef_3 m (A 2) (A 1)) k) ?_
  refine own_go (B := s₁.setTop (mkF m 1 #[.val (.ref (A 2)), .val (.ref (A 1))] [(.ref (A 2))])) (fun _ k => XS.aloadN X0.here hx rfl (hb hby d3_0) rfl rfl k) ?_
  obtain ⟨T1, X1, e1, st1⟩ := getF X0 hx hZ hown (host := "") (Or.inl (hw _ (List.mem_of_getElem? (i := 18) rfl))) Via.refl e0 (F_AER_local.ext x0) (g := (mkF m 1 #[.val (.ref (A 2)), .val (.ref (A 1))] [(.ref (A 2))])) rfl rfl (hb hby d3_1)
  refine own_go (B := T1.setTop (mkF m 4 #[.val (.ref (A 2)), .val (.ref (A 1))] [(.int (1 : Int32))])) st1 ?_
  refine own_go (B := T1.setTop (mkF m 14 #[.val (.ref (A 2)), .val (.ref (A 1))] [])) (fun _ k => XS.ifYes X1.here hx rfl (pc0 := 4) (pc' := 14) rfl (hb hby d3_4) rfl (by decide) (by decide) (by decide) k) ?_
  refine own_go (B := T1.setTop (mkF m 15 #[.val (.ref (A 2)), .val (.ref (A 1))] [(.int (1 : Int32))])) (fun _ k => XT.iconstV X1.here hx rfl (1 : Int32) (hb hby d3_14) rfl k) ?_
  refine own_go (B := T1.setTop (mkF m 19 #[.val (.ref (A 2)), .val (.ref (A 1))] [(.int (1 : Int32))])) (fun _ k => XS.goto X1.here hx rfl (pc0 := 15) (pc' := 19) rfl (hb hby d3_15) (by decide) (by decide) k) ?_
  exact own_ret X1 hx (t := .boolean) hrt rfl (Or.inl ⟨rfl, by simp, _, rfl⟩) (hb hby d3_19) hlk ⟨rfl, N0, e1⟩ (by decide) (by decide)
set_option maxRecDepth 65536 in
set_option maxHeartbeats 40000000 in
theorem rm3_24 (l : Launch) (Z : State) (a0 : Array Value) (hw : ∀ d ∈ tables_1, d.before a0 Z = true) (ws : List Jvm.Cond)  (A : Nat → Addr) (hW : own_W Z A) (h0 : Heap) (x0 : Ext Z.heap h0)  :
    own_Met l Z (⟨"com/example/oblate/oblate/Frame", "needsReference", "(Lcom/example/oblate/oblate/Frame;)Z"⟩ : MethodName) prog_11_method_8_code 2 (some .boolean) ws ({ frames := 0, cells := 0, slots := 0, locals := 0 } : Room) #[(.ref (A 2)), (.ref (A 2))] h0 (fun v_ h_ L_ => v_ = some (.int (1 : Int32)) ∧ Fr Z.heap.size L_ ∧ h_ = h0) := by
  refine own_body (plainFor_of_name pn_1) fun p e s m below meth c s₁ hx hby hml hown hnm hlk hrt hZ X0 e0 => ?_
  have N0 := Fr.nil Z.heap.size
  have hW' := hW
  obtain ⟨-, -, -, -, -, -, -, -, -, -, -, -, F_AER_local, -, -⟩ := hW'
  refine own_go (B := s₁.setTop (mkF m 0 #[.val (.ref (A 2)), .val (.ref (A 2))] [])) (fun t k => castTop (ef_3 m (A 2) (A 2)) k) ?_
  refine own_go (B := s₁.setTop (mkF m 1 #[.val (.ref (A 2)), .val (.ref (A 2))] [(.ref (A 2))])) (fun _ k => XS.aloadN X0.here hx rfl (hb hby d3_0) rfl rfl k) ?_
  obtain ⟨T1, X1, e1, st1⟩ := getF X0 hx hZ hown (host := "") (Or.inl (hw _ (List.mem_of_getElem? (i := 18) rfl))) Via.refl e0 (F_AER_local.ext x0) (g := (mkF m 1 #[.val (.ref (A 2)), .val (.ref (A 2))] [(.ref (A 2))])) rfl rfl (hb hby d3_1)
  refine own_go (B := T1.setTop (mkF m 4 #[.val (.ref (A 2)), .val (.ref (A 2))] [(.int (1 : Int32))])) st1 ?_
  refine own_go (B := T1.setTop (mkF m 14 #[.val (.ref (A 2)), .val (.ref (A 2))] [])) (fun _ k => XS.ifYes X1.here hx rfl (pc0 := 4) (pc' := 14) rfl (hb hby d3_4) rfl (by decide) (by decide) (by decide) k) ?_
  refine own_go (B := T1.setTop (mkF m 15 #[.val (.ref (A 2)), .val (.ref (A 2))] [(.int (1 : Int32))])) (fun _ k => XT.iconstV X1.here hx rfl (1 : Int32) (hb hby d3_14) rfl k) ?_
  refine own_go (B := T1.setTop (mkF m 19 #[.val (.ref (A 2)), .val (.ref (A 2))] [(.int (1 : Int32))])) (fun _ k => XS.goto X1.here hx rfl (pc0 := 15) (pc' := 19) rfl (hb hby d3_15) (by decide) (by decide) k) ?_
  exact own_ret X1 hx (t := .boolean) hrt rfl (Or.inl ⟨rfl, by simp, _, rfl⟩) (hb hby d3_19) hlk ⟨rfl, N0, e1⟩ (by decide) (by decide)
set_option maxRecDepth 65536 in
set_option maxHeartbeats 40000000 in
theorem rm0 (l : Launch) (Z : State) (a0 : Array Value) (hw : ∀ d ∈ tables_1, d.before a0 Z = true) (ws : List Jvm.Cond) (p0 p1 : Int32) (A : Nat → Addr) (hW : own_W Z A) (h0 : Heap) (x0 : Ext Z.heap h0)  :
    own_Met l Z x code maxLocals ret ws room_1 #[(.int p0), (.int p1)] h0 (fun v_ h_ L_ => v_ = some (.int (1 : Int32)) ∧ Fr Z.heap.size L_) := by
  refine own_body (plainFor_of_name pn_0) fun p e s m below meth c s₁ hx hby hml hown hnm hlk hrt hZ X0 e0 => ?_
  have N0 := Fr.nil Z.heap.size
  have hW' := hW
  obtain ⟨-, E_GEODETIC, -, E_NED, -, E_AER, -, E_ECEF, -, E_ENU, -, -, -, -, -⟩ := hW'
  refine own_go (B := s₁.setTop (mkF m 0 #[.val (.int p0), .val (.int p1), .unset, .unset, .unset] [])) (fun t k => castTop (ef_0 m p0 p1) k) ?_
  refine own_go (B := s₁.setTop (mkF m 1 #[.val (.int p0), .val (.int p1), .unset, .unset, .unset] [(.int p0)])) (fun _ k => XS.iloadN X0.here hx rfl (hb hby at_0) rfl k) ?_
  refine own_go (B := s₁.setTop (mkF m 3 #[.val (.int p0), .val (.int p1), .unset, .unset, .unset] [(.int (2147483647 : Int32)), (.int p0)])) (fun _ k => Jvm.Stand.ldcI X0 hx hown (mvT hZ (hw _ (List.mem_of_getElem? (i := 0) rfl))) (g := (mkF m 1 #[.val (.int p0), .val (.int p1), .unset, .unset, .unset] [(.int p0)])) rfl (hb hby at_1) k) ?_
  refine own_go (B := s₁.setTop (mkF m 4 #[.val (.int p0), .val (.int p1), .unset, .unset, .unset] [(.int (p0 &&& (2147483647 : Int32)))])) (fun _ k => XS.iand X0.here hx rfl (hb hby at_3) rfl k) ?_
  refine own_go (B := s₁.setTop (mkF m 5 #[.val (.int p0), .val (.int p1), .unset, .unset, .unset] [(.int (5 : Int32)), (.int (p0 &&& (2147483647 : Int32)))])) (fun _ k => XT.iconstV X0.here hx rfl (5 : Int32) (hb hby at_4) rfl k) ?_
  refine own_go (B := s₁.setTop (mkF m 6 #[.val (.int p0), .val (.int p1), .unset, .unset, .unset] [(.int ((p0 &&& (2147483647 : Int32)) % (5 : Int32)))])) (fun _ k => iremM (g := (mkF m 5 #[.val (.int p0), .val (.int p1), .unset, .unset, .unset] [(.int (5 : Int32)), (.int (p0 &&& (2147483647 : Int32)))])) X0 hx rfl (hb hby at_5) rfl (by decide) k) ?_
  refine own_go (B := s₁.setTop (mkF m 7 #[.val (.int p0), .val (.int p1), .val (.int ((p0 &&& (2147483647 : Int32)) % (5 : Int32))), .unset, .unset] [])) (fun _ k => XS.istoreN X0.here hx rfl (hb hby at_6) rfl (l' := #[.val (.int p0), .val (.int p1), .val (.int ((p0 &&& (2147483647 : Int32)) % (5 : Int32))), .unset, .unset]) rfl k) ?_
  obtain ⟨ip0, hip0⟩ : ∃ z : Int32, ((p0 &&& (2147483647 : Int32)) % (5 : Int32)) = z := ⟨_, rfl⟩
  rw [hip0]
  have hcs := own_c5 p0
  rw [hip0] at hcs
  rcases hcs with rfl | rfl | rfl | rfl | rfl
  · refine own_go (B := s₁.setTop (mkF m 8 #[.val (.int p0), .val (.int p1), .val (.int (0 : Int32)), .unset, .unset] [(.int p1)])) (fun _ k => XS.iloadN X0.here hx rfl (hb hby at_7) rfl k) ?_
    refine own_go (B := s₁.setTop (mkF m 10 #[.val (.int p0), .val (.int p1), .val (.int (0 : Int32)), .unset, .unset] [(.int (2147483647 : Int32)), (.int p1)])) (fun _ k => Jvm.Stand.ldcI X0 hx hown (mvT hZ (hw _ (List.mem_of_getElem? (i := 0) rfl))) (g := (mkF m 8 #[.val (.int p0), .val (.int p1), .val (.int (0 : Int32)), .unset, .unset] [(.int p1)])) rfl (hb hby at_8) k) ?_
    refine own_go (B := s₁.setTop (mkF m 11 #[.val (.int p0), .val (.int p1), .val (.int (0 : Int32)), .unset, .unset] [(.int (p1 &&& (2147483647 : Int32)))])) (fun _ k => XS.iand X0.here hx rfl (hb hby at_10) rfl k) ?_
    refine own_go (B := s₁.setTop (mkF m 12 #[.val (.int p0), .val (.int p1), .val (.int (0 : Int32)), .unset, .unset] [(.int (5 : Int32)), (.int (p1 &&& (2147483647 : Int32)))])) (fun _ k => XT.iconstV X0.here hx rfl (5 : Int32) (hb hby at_11) rfl k) ?_
    refine own_go (B := s₁.setTop (mkF m 13 #[.val (.int p0), .val (.int p1), .val (.int (0 : Int32)), .unset, .unset] [(.int ((p1 &&& (2147483647 : Int32)) % (5 : Int32)))])) (fun _ k => iremM (g := (mkF m 12 #[.val (.int p0), .val (.int p1), .val (.int (0 : Int32)), .unset, .unset] [(.int (5 : Int32)), (.int (p1 &&& (2147483647 : Int32)))])) X0 hx rfl (hb hby at_12) rfl (by decide) k) ?_
    refine own_go (B := s₁.setTop (mkF m 14 #[.val (.int p0), .val (.int p1), .val (.int (0 : Int32)), .val (.int ((p1 &&& (2147483647 : Int32)) % (5 : Int32))), .unset] [])) (fun _ k => XS.istoreN X0.here hx rfl (hb hby at_13) rfl (l' := #[.val (.int p0), .val (.int p1), .val (.int (0 : Int32)), .val (.int ((p1 &&& (2147483647 : Int32)) % (5 : Int32))), .unset]) rfl k) ?_
    obtain ⟨ip1, hip1⟩ : ∃ z : Int32, ((p1 &&& (2147483647 : Int32)) % (5 : Int32)) = z := ⟨_, rfl⟩
    rw [hip1]
    have hcs := own_c5 p1
    rw [hip1] at hcs
    rcases hcs with rfl | rfl | rfl | rfl | rfl
    · refine own_go (B := s₁.setTop (mkF m 15 #[.val (.int p0), .val (.int p1), .val (.int (0 : Int32)), .val (.int (0 : Int32)), .unset] [(.int (0 : Int32))])) (fun _ k => XS.iloadN X0.here hx rfl (hb hby at_14) rfl k) ?_
      obtain ⟨_, _, ⟨T1, L1, k1, n1⟩, -, X1, ⟨Lc1, hQ1, l1, y1, z1⟩, st1⟩ := Jvm.LawKit.callS X0 hx (y := (⟨"com/example/oblate/oblate/FrameNeedsReferencePinLaw", "isLocalByDoc", "(I)Z"⟩ : MethodName)) hown (mvT hZ (hw _ (List.mem_of_getElem? (i := 1) rfl))) (mvT hZ (hw _ (List.mem_of_getElem? (i := 2) rfl))) (mvT hZ (hw _ (List.mem_of_getElem? (i := 3) rfl))) (mvT hZ (hw _ (List.mem_of_getElem? (i := 4) rfl))) (by decide) (own_back (W := 0) (rm1_0 l Z a0 hw []  A hW h0 x0 ) hZ (hw _ (List.mem_of_getElem? (i := 4) rfl)) (hw _ (List.mem_of_getElem? (i := 3) rfl)) (by decide) (by decide)) (g := (mkF m 15 #[.val (.int p0), .val (.int p1), .val (.int (0 : Int32)), .val (.int (0 : Int32)), .unset] [(.int (0 : Int32))])) rfl (by rw [hml]; rfl) (argsL := [(.int (0 : Int32))]) (rest := []) (lenOf pd_0 rfl) rfl (by show 2 * 0 + _ ≤ _; exact Nat.le_of_eq rfl) (hb hby at_15) (fun _ _ => ⟨rfl, e0, (by decide : 0 + 0 ≤ _), (by decide : 0 + 0 ≤ _)⟩)
      dsimp only [Pt.U, Pt.locs, Pt.cells, Pt.slots] at X1 l1 y1 z1 st1 hQ1
      subst l1 y1 z1
      obtain ⟨rfl, N1q, e1⟩ := hQ1
      have N1 := Fr.app N0 N1q
      refine own_go (B := T1.setTop (mkF m 18 #[.val (.int p0), .val (.int p1), .val (.int (0 : Int32)), .val (.int (0 : Int32)), .unset] [(.int (0 : Int32))])) st1 ?_
      refine own_go (B := T1.setTop (mkF m 21 #[.val (.int p0), .val (.int p1), .val (.int (0 : Int32)), .val (.int (0 : Int32)), .unset] [])) (fun _ k => XS.ifNo X1.here hx rfl (hb hby at_18) rfl (by decide) k) ?_
      refine own_go (B := T1.setTop (mkF m 22 #[.val (.int p0), .val (.int p1), .val (.int (0 : Int32)), .val (.int (0 : Int32)), .unset] [(.int (0 : Int32))])) (fun _ k => XS.iloadN X1.here hx rfl (hb hby at_21) rfl k) ?_
      obtain ⟨_, _, ⟨T2, L2, k2, n2⟩, -, X2, ⟨Lc2, hQ2, l2, y2, z2⟩, st2⟩ := Jvm.LawKit.callS X1 hx (y := (⟨"com/example/oblate/oblate/FrameNeedsReferencePinLaw", "isLocalByDoc", "(I)Z"⟩ : MethodName)) hown (mvT hZ (hw _ (List.mem_of_getElem? (i := 1) rfl))) (mvT hZ (hw _ (List.mem_of_getElem? (i := 2) rfl))) (mvT hZ (hw _ (List.mem_of_getElem? (i := 3) rfl))) (mvT hZ (hw _ (List.mem_of_getElem? (i := 4) rfl))) (by decide) (own_back (W := 0) (rm1_0 l Z a0 hw []  A hW h0 x0 ) hZ (hw _ (List.mem_of_getElem? (i := 4) rfl)) (hw _ (List.mem_of_getElem? (i := 3) rfl)) (by decide) (by decide)) (g := (mkF m 22 #[.val (.int p0), .val (.int p1), .val (.int (0 : Int32)), .val (.int (0 : Int32)), .unset] [(.int (0 : Int32))])) rfl (by rw [hml]; rfl) (argsL := [(.int (0 : Int32))]) (rest := []) (lenOf pd_0 rfl) rfl (by show 2 * 0 + _ ≤ _; exact Nat.le_of_eq rfl) (hb hby at_22) (fun _ _ => ⟨rfl, e1, (by decide : 0 + 0 ≤ _), (by decide : 0 + 0 ≤ _)⟩)
      dsimp only [Pt.U, Pt.locs, Pt.cells, Pt.slots] at X2 l2 y2 z2 st2 hQ2
      subst l2 y2 z2
      obtain ⟨rfl, N2q, e2⟩ := hQ2
      have N2 := Fr.app N1 N2q
      refine own_go (B := T2.setTop (mkF m 25 #[.val (.int p0), .val (.int p1), .val (.int (0 : Int32)), .val (.int (0 : Int32)), .unset] [(.int (0 : Int32))])) st2 ?_
      refine own_go (B := T2.setTop (mkF m 32 #[.val (.int p0), .val (.int p1), .val (.int (0 : Int32)), .val (.int (0 : Int32)), .unset] [])) (fun _ k => XS.ifYes X2.here hx rfl (pc0 := 25) (pc' := 32) rfl (hb hby at_25) rfl (by decide) (by decide) (by decide) k) ?_
      refine own_go (B := T2.setTop (mkF m 33 #[.val (.int p0), .val (.int p1), .val (.int (0 : Int32)), .val (.int (0 : Int32)), .unset] [(.int (0 : Int32))])) (fun _ k => XT.iconstV X2.here hx rfl (0 : Int32) (hb hby at_32) rfl k) ?_
      refine own_go (B := T2.setTop (mkF m 35 #[.val (.int p0), .val (.int p1), .val (.int (0 : Int32)), .val (.int (0 : Int32)), .val (.int (0 : Int32))] [])) (fun _ k => XS.istore X2.here hx rfl (hb hby at_33) rfl (l' := #[.val (.int p0), .val (.int p1), .val (.int (0 : Int32)), .val (.int (0 : Int32)), .val (.int (0 : Int32))]) rfl k) ?_
      refine own_go (B := T2.setTop (mkF m 36 #[.val (.int p0), .val (.int p1), .val (.int (0 : Int32)), .val (.int (0 : Int32)), .val (.int (0 : Int32))] [(.int (0 : Int32))])) (fun _ k => XS.iloadN X2.here hx rfl (hb hby at_35) rfl k) ?_
      obtain ⟨_, _, ⟨T3, L3, k3, n3⟩, -, X3, ⟨Lc3, hQ3, l3, y3, z3⟩, st3⟩ := Jvm.LawKit.callS X2 hx (y := (⟨"com/example/oblate/oblate/FrameNeedsReferencePinLaw", "pick", "(I)Lcom/example/oblate/oblate/Frame;"⟩ : MethodName)) hown (mvT hZ (hw _ (List.mem_of_getElem? (i := 5) rfl))) (mvT hZ (hw _ (List.mem_of_getElem? (i := 6) rfl))) (mvT hZ (hw _ (List.mem_of_getElem? (i := 3) rfl))) (mvT hZ (hw _ (List.mem_of_getElem? (i := 7) rfl))) (by decide) (own_back (W := 0) (rm2_0 l Z a0 hw []  A hW h0 x0 ) hZ (hw _ (List.mem_of_getElem? (i := 7) rfl)) (hw _ (List.mem_of_getElem? (i := 3) rfl)) (by decide) (by decide)) (g := (mkF m 36 #[.val (.int p0), .val (.int p1), .val (.int (0 : Int32)), .val (.int (0 : Int32)), .val (.int (0 : Int32))] [(.int (0 : Int32))])) rfl (by rw [hml]; rfl) (argsL := [(.int (0 : Int32))]) (rest := []) (lenOf pd_1 rfl) rfl (by show 2 * 0 + _ ≤ _; exact Nat.le_of_eq rfl) (hb hby at_36) (fun _ _ => ⟨rfl, e2, (by decide : 0 + 0 ≤ _), (by decide : 0 + 0 ≤ _)⟩)
      dsimp only [Pt.U, Pt.locs, Pt.cells, Pt.slots] at X3 l3 y3 z3 st3 hQ3
      subst l3 y3 z3
      obtain ⟨rfl, N3q, e3⟩ := hQ3
      have N3 := Fr.app N2 N3q
      refine own_go (B := T3.setTop (mkF m 39 #[.val (.int p0), .val (.int p1), .val (.int (0 : Int32)), .val (.int (0 : Int32)), .val (.int (0 : Int32))] [(.ref (A 0))])) st3 ?_
      refine own_go (B := T3.setTop (mkF m 40 #[.val (.int p0), .val (.int p1), .val (.int (0 : Int32)), .val (.int (0 : Int32)), .val (.int (0 : Int32))] [(.int (0 : Int32)), (.ref (A 0))])) (fun _ k => XS.iloadN X3.here hx rfl (hb hby at_39) rfl k) ?_
      obtain ⟨_, _, ⟨T4, L4, k4, n4⟩, -, X4, ⟨Lc4, hQ4, l4, y4, z4⟩, st4⟩ := Jvm.LawKit.callS X3 hx (y := (⟨"com/example/oblate/oblate/FrameNeedsReferencePinLaw", "pick", "(I)Lcom/example/oblate/oblate/Frame;"⟩ : MethodName)) hown (mvT hZ (hw _ (List.mem_of_getElem? (i := 5) rfl))) (mvT hZ (hw _ (List.mem_of_getElem? (i := 6) rfl))) (mvT hZ (hw _ (List.mem_of_getElem? (i := 3) rfl))) (mvT hZ (hw _ (List.mem_of_getElem? (i := 7) rfl))) (by decide) (own_back (W := 1) (rm2_0 l Z a0 hw []  A hW h0 x0 ) hZ (hw _ (List.mem_of_getElem? (i := 7) rfl)) (hw _ (List.mem_of_getElem? (i := 3) rfl)) (by decide) (by decide)) (g := (mkF m 40 #[.val (.int p0), .val (.int p1), .val (.int (0 : Int32)), .val (.int (0 : Int32)), .val (.int (0 : Int32))] [(.int (0 : Int32)), (.ref (A 0))])) rfl (by rw [hml]; rfl) (argsL := [(.int (0 : Int32))]) (rest := [(.ref (A 0))]) (lenOf pd_1 rfl) rfl (by show 2 * 0 + _ ≤ _; exact Nat.le_of_eq rfl) (hb hby at_40) (fun _ _ => ⟨rfl, e3, (by decide : 0 + 0 ≤ _), (by decide : 0 + 0 ≤ _)⟩)
      dsimp only [Pt.U, Pt.locs, Pt.cells, Pt.slots] at X4 l4 y4 z4 st4 hQ4
      subst l4 y4 z4
      obtain ⟨rfl, N4q, e4⟩ := hQ4
      have N4 := Fr.app N3 N4q
      refine own_go (B := T4.setTop (mkF m 43 #[.val (.int p0), .val (.int p1), .val (.int (0 : Int32)), .val (.int (0 : Int32)), .val (.int (0 : Int32))] [(.ref (A 0)), (.ref (A 0))])) st4 ?_
      obtain ⟨cq5, kq5, q5a, q5b, q5c⟩ := isOf hZ e4 (E_GEODETIC.ext x0)
      obtain ⟨_, _, ⟨T5, L5, k5, n5⟩, -, X5, ⟨Lc5, hQ5, l5, y5, z5⟩, st5⟩ := X4.virtualBack hx (y := (⟨"com/example/oblate/oblate/Frame", "needsReference", "(Lcom/example/oblate/oblate/Frame;)Z"⟩ : MethodName)) (z := (⟨"com/example/oblate/oblate/Frame", "needsReference", "(Lcom/example/oblate/oblate/Frame;)Z"⟩ : MethodName)) hown (mvT hZ (hw _ (List.mem_of_getElem? (i := 13) rfl))) (mvT hZ (hw _ (List.mem_of_getElem? (i := 14) rfl))) (notFace_of_selects (args := #[]) (mvT hZ (hw _ (List.mem_of_getElem? (i := 16) rfl)))) (mvT hZ (hw _ (List.mem_of_getElem? (i := 16) rfl))) (mvT hZ (hw _ (List.mem_of_getElem? (i := 15) rfl))) (by decide) (own_back (W := 0) (rm3_0 l Z a0 hw []  A hW h0 x0 ) hZ (hw _ (List.mem_of_getElem? (i := 17) rfl)) (hw _ (List.mem_of_getElem? (i := 9) rfl)) (by decide) (by decide)) q5a q5c (g := (mkF m 43 #[.val (.int p0), .val (.int p1), .val (.int (0 : Int32)), .val (.int (0 : Int32)), .val (.int (0 : Int32))] [(.ref (A 0)), (.ref (A 0))])) rfl (by rw [hml]; rfl) (Steps.refl _) (argsL := [(.ref (A 0))]) (rest := []) (lenOf pd_2 rfl) rfl (by show 2 * 0 + _ ≤ _; exact Nat.le_of_eq rfl) (hb hby at_43) (fun _ _ => ⟨rfl, e4, (by decide : 0 + 0 ≤ _), (by decide : 0 + 0 ≤ _)⟩)
      dsimp only [Pt.U, Pt.locs, Pt.cells, Pt.slots] at X5 l5 y5 z5 st5 hQ5
      subst l5 y5 z5
      obtain ⟨rfl, N5q, e5⟩ := hQ5
      have N5 := Fr.app N4 N5q
      refine own_go (B := T5.setTop (mkF m 46 #[.val (.int p0), .val (.int p1), .val (.int (0 : Int32)), .val (.int (0 : Int32)), .val (.int (0 : Int32))] [(.int (0 : Int32))])) (fun _ k => st5.trans k) ?_
      refine own_go (B := T5.setTop (mkF m 48 #[.val (.int p0), .val (.int p1), .val (.int (0 : Int32)), .val (.int (0 : Int32)), .val (.int (0 : Int32))] [(.int (0 : Int32)), (.int (0 : Int32))])) (fun _ k => XS.iload X5.here hx rfl (hb hby at_46) rfl k) ?_
      refine own_go (B := T5.setTop (mkF m 51 #[.val (.int p0), .val (.int p1), .val (.int (0 : Int32)), .val (.int (0 : Int32)), .val (.int (0 : Int32))] [])) (fun _ k => XS.icmpNo X5.here hx rfl (hb hby at_48) rfl (by decide) k) ?_
      refine own_go (B := T5.setTop (mkF m 52 #[.val (.int p0), .val (.int p1), .val (.int (0 : Int32)), .val (.int (0 : Int32)), .val (.int (0 : Int32))] [(.int (1 : Int32))])) (fun _ k => XT.iconstV X5.here hx rfl (1 : Int32) (hb hby at_51) rfl k) ?_
      refine own_go (B := T5.setTop (mkF m 56 #[.val (.int p0), .val (.int p1), .val (.int (0 : Int32)), .val (.int (0 : Int32)), .val (.int (0 : Int32))] [(.int (1 : Int32))])) (fun _ k => XS.goto X5.here hx rfl (pc0 := 52) (pc' := 56) rfl (hb hby at_52) (by decide) (by decide) k) ?_
      exact own_ret X5 hx (t := .boolean) hrt rfl (Or.inl ⟨rfl, by simp, _, rfl⟩) (hb hby at_56) hlk ⟨rfl, N5⟩ (by decide) (by decide)
    · refine own_go (B := s₁.setTop (mkF m 15 #[.val (.int p0), .val (.int p1), .val (.int (0 : Int32)), .val (.int (1 : Int32)), .unset] [(.int (0 : Int32))])) (fun _ k => XS.iloadN X0.here hx rfl (hb hby at_14) rfl k) ?_
      obtain ⟨_, _, ⟨T6, L6, k6, n6⟩, -, X6, ⟨Lc6, hQ6, l6, y6, z6⟩, st6⟩ := Jvm.LawKit.callS X0 hx (y := (⟨"com/example/oblate/oblate/FrameNeedsReferencePinLaw", "isLocalByDoc", "(I)Z"⟩ : MethodName)) hown (mvT hZ (hw _ (List.mem_of_getElem? (i := 1) rfl))) (mvT hZ (hw _ (List.mem_of_getElem? (i := 2) rfl))) (mvT hZ (hw _ (List.mem_of_getElem? (i := 3) rfl))) (mvT hZ (hw _ (List.mem_of_getElem? (i := 4) rfl))) (by decide) (own_back (W := 0) (rm1_0 l Z a0 hw []  A hW h0 x0 ) hZ (hw _ (List.mem_of_getElem? (i := 4) rfl)) (hw _ (List.mem_of_getElem? (i := 3) rfl)) (by decide) (by decide)) (g := (mkF m 15 #[.val (.int p0), .val (.int p1), .val (.int (0 : Int32)), .val (.int (1 : Int32)), .unset] [(.int (0 : Int32))])) rfl (by rw [hml]; rfl) (argsL := [(.int (0 : Int32))]) (rest := []) (lenOf pd_0 rfl) rfl (by show 2 * 0 + _ ≤ _; exact Nat.le_of_eq rfl) (hb hby at_15) (fun _ _ => ⟨rfl, e0, (by decide : 0 + 0 ≤ _), (by decide : 0 + 0 ≤ _)⟩)
      dsimp only [Pt.U, Pt.locs, Pt.cells, Pt.slots] at X6 l6 y6 z6 st6 hQ6
      subst l6 y6 z6
      obtain ⟨rfl, N6q, e6⟩ := hQ6
      have N6 := Fr.app N0 N6q
      refine own_go (B := T6.setTop (mkF m 18 #[.val (.int p0), .val (.int p1), .val (.int (0 : Int32)), .val (.int (1 : Int32)), .unset] [(.int (0 : Int32))])) st6 ?_
      refine own_go (B := T6.setTop (mkF m 21 #[.val (.int p0), .val (.int p1), .val (.int (0 : Int32)), .val (.int (1 : Int32)), .unset] [])) (fun _ k => XS.ifNo X6.here hx rfl (hb hby at_18) rfl (by decide) k) ?_
      refine own_go (B := T6.setTop (mkF m 22 #[.val (.int p0), .val (.int p1), .val (.int (0 : Int32)), .val (.int (1 : Int32)), .unset] [(.int (1 : Int32))])) (fun _ k => XS.iloadN X6.here hx rfl (hb hby at_21) rfl k) ?_
      obtain ⟨_, _, ⟨T7, L7, k7, n7⟩, -, X7, ⟨Lc7, hQ7, l7, y7, z7⟩, st7⟩ := Jvm.LawKit.callS X6 hx (y := (⟨"com/example/oblate/oblate/FrameNeedsReferencePinLaw", "isLocalByDoc", "(I)Z"⟩ : MethodName)) hown (mvT hZ (hw _ (List.mem_of_getElem? (i := 1) rfl))) (mvT hZ (hw _ (List.mem_of_getElem? (i := 2) rfl))) (mvT hZ (hw _ (List.mem_of_getElem? (i := 3) rfl))) (mvT hZ (hw _ (List.mem_of_getElem? (i := 4) rfl))) (by decide) (own_back (W := 0) (rm1_1 l Z a0 hw []  A hW h0 x0 ) hZ (hw _ (List.mem_of_getElem? (i := 4) rfl)) (hw _ (List.mem_of_getElem? (i := 3) rfl)) (by decide) (by decide)) (g := (mkF m 22 #[.val (.int p0), .val (.int p1), .val (.int (0 : Int32)), .val (.int (1 : Int32)), .unset] [(.int (1 : Int32))])) rfl (by rw [hml]; rfl) (argsL := [(.int (1 : Int32))]) (rest := []) (lenOf pd_0 rfl) rfl (by show 2 * 0 + _ ≤ _; exact Nat.le_of_eq rfl) (hb hby at_22) (fun _ _ => ⟨rfl, e6, (by decide : 0 + 0 ≤ _), (by decide : 0 + 0 ≤ _)⟩)
      dsimp only [Pt.U, Pt.locs, Pt.cells, Pt.slots] at X7 l7 y7 z7 st7 hQ7
      subst l7 y7 z7
      obtain ⟨rfl, N7q, e7⟩ := hQ7
      have N7 := Fr.app N6 N7q
      refine own_go (B := T7.setTop (mkF m 25 #[.val (.int p0), .val (.int p1), .val (.int (0 : Int32)), .val (.int (1 : Int32)), .unset] [(.int (0 : Int32))])) st7 ?_
      refine own_go (B := T7.setTop (mkF m 32 #[.val (.int p0), .val (.int p1), .val (.int (0 : Int32)), .val (.int (1 : Int32)), .unset] [])) (fun _ k => XS.ifYes X7.here hx rfl (pc0 := 25) (pc' := 32) rfl (hb hby at_25) rfl (by decide) (by decide) (by decide) k) ?_
      refine own_go (B := T7.setTop (mkF m 33 #[.val (.int p0), .val (.int p1), .val (.int (0 : Int32)), .val (.int (1 : Int32)), .unset] [(.int (0 : Int32))])) (fun _ k => XT.iconstV X7.here hx rfl (0 : Int32) (hb hby at_32) rfl k) ?_
      refine own_go (B := T7.setTop (mkF m 35 #[.val (.int p0), .val (.int p1), .val (.int (0 : Int32)), .val (.int (1 : Int32)), .val (.int (0 : Int32))] [])) (fun _ k => XS.istore X7.here hx rfl (hb hby at_33) rfl (l' := #[.val (.int p0), .val (.int p1), .val (.int (0 : Int32)), .val (.int (1 : Int32)), .val (.int (0 : Int32))]) rfl k) ?_
      refine own_go (B := T7.setTop (mkF m 36 #[.val (.int p0), .val (.int p1), .val (.int (0 : Int32)), .val (.int (1 : Int32)), .val (.int (0 : Int32))] [(.int (0 : Int32))])) (fun _ k => XS.iloadN X7.here hx rfl (hb hby at_35) rfl k) ?_
      obtain ⟨_, _, ⟨T8, L8, k8, n8⟩, -, X8, ⟨Lc8, hQ8, l8, y8, z8⟩, st8⟩ := Jvm.LawKit.callS X7 hx (y := (⟨"com/example/oblate/oblate/FrameNeedsReferencePinLaw", "pick", "(I)Lcom/example/oblate/oblate/Frame;"⟩ : MethodName)) hown (mvT hZ (hw _ (List.mem_of_getElem? (i := 5) rfl))) (mvT hZ (hw _ (List.mem_of_getElem? (i := 6) rfl))) (mvT hZ (hw _ (List.mem_of_getElem? (i := 3) rfl))) (mvT hZ (hw _ (List.mem_of_getElem? (i := 7) rfl))) (by decide) (own_back (W := 0) (rm2_0 l Z a0 hw []  A hW h0 x0 ) hZ (hw _ (List.mem_of_getElem? (i := 7) rfl)) (hw _ (List.mem_of_getElem? (i := 3) rfl)) (by decide) (by decide)) (g := (mkF m 36 #[.val (.int p0), .val (.int p1), .val (.int (0 : Int32)), .val (.int (1 : Int32)), .val (.int (0 : Int32))] [(.int (0 : Int32))])) rfl (by rw [hml]; rfl) (argsL := [(.int (0 : Int32))]) (rest := []) (lenOf pd_1 rfl) rfl (by show 2 * 0 + _ ≤ _; exact Nat.le_of_eq rfl) (hb hby at_36) (fun _ _ => ⟨rfl, e7, (by decide : 0 + 0 ≤ _), (by decide : 0 + 0 ≤ _)⟩)
      dsimp only [Pt.U, Pt.locs, Pt.cells, Pt.slots] at X8 l8 y8 z8 st8 hQ8
      subst l8 y8 z8
      obtain ⟨rfl, N8q, e8⟩ := hQ8
      have N8 := Fr.app N7 N8q
      refine own_go (B := T8.setTop (mkF m 39 #[.val (.int p0), .val (.int p1), .val (.int (0 : Int32)), .val (.int (1 : Int32)), .val (.int (0 : Int32))] [(.ref (A 0))])) st8 ?_
      refine own_go (B := T8.setTop (mkF m 40 #[.val (.int p0), .val (.int p1), .val (.int (0 : Int32)), .val (.int (1 : Int32)), .val (.int (0 : Int32))] [(.int (1 : Int32)), (.ref (A 0))])) (fun _ k => XS.iloadN X8.here hx rfl (hb hby at_39) rfl k) ?_
      obtain ⟨_, _, ⟨T9, L9, k9, n9⟩, -, X9, ⟨Lc9, hQ9, l9, y9, z9⟩, st9⟩ := Jvm.LawKit.callS X8 hx (y := (⟨"com/example/oblate/oblate/FrameNeedsReferencePinLaw", "pick", "(I)Lcom/example/oblate/oblate/Frame;"⟩ : MethodName)) hown (mvT hZ (hw _ (List.mem_of_getElem? (i := 5) rfl))) (mvT hZ (hw _ (List.mem_of_getElem? (i := 6) rfl))) (mvT hZ (hw _ (List.mem_of_getElem? (i := 3) rfl))) (mvT hZ (hw _ (List.mem_of_getElem? (i := 7) rfl))) (by decide) (own_back (W := 1) (rm2_1 l Z a0 hw []  A hW h0 x0 ) hZ (hw _ (List.mem_of_getElem? (i := 7) rfl)) (hw _ (List.mem_of_getElem? (i := 3) rfl)) (by decide) (by decide)) (g := (mkF m 40 #[.val (.int p0), .val (.int p1), .val (.int (0 : Int32)), .val (.int (1 : Int32)), .val (.int (0 : Int32))] [(.int (1 : Int32)), (.ref (A 0))])) rfl (by rw [hml]; rfl) (argsL := [(.int (1 : Int32))]) (rest := [(.ref (A 0))]) (lenOf pd_1 rfl) rfl (by show 2 * 0 + _ ≤ _; exact Nat.le_of_eq rfl) (hb hby at_40) (fun _ _ => ⟨rfl, e8, (by decide : 0 + 0 ≤ _), (by decide : 0 + 0 ≤ _)⟩)
      dsimp only [Pt.U, Pt.locs, Pt.cells, Pt.slots] at X9 l9 y9 z9 st9 hQ9
      subst l9 y9 z9
      obtain ⟨rfl, N9q, e9⟩ := hQ9
      have N9 := Fr.app N8 N9q
      refine own_go (B := T9.setTop (mkF m 43 #[.val (.int p0), .val (.int p1), .val (.int (0 : Int32)), .val (.int (1 : Int32)), .val (.int (0 : Int32))] [(.ref (A 3)), (.ref (A 0))])) st9 ?_
      obtain ⟨cq10, kq10, q10a, q10b, q10c⟩ := isOf hZ e9 (E_GEODETIC.ext x0)
      obtain ⟨_, _, ⟨T10, L10, k10, n10⟩, -, X10, ⟨Lc10, hQ10, l10, y10, z10⟩, st10⟩ := X9.virtualBack hx (y := (⟨"com/example/oblate/oblate/Frame", "needsReference", "(Lcom/example/oblate/oblate/Frame;)Z"⟩ : MethodName)) (z := (⟨"com/example/oblate/oblate/Frame", "needsReference", "(Lcom/example/oblate/oblate/Frame;)Z"⟩ : MethodName)) hown (mvT hZ (hw _ (List.mem_of_getElem? (i := 13) rfl))) (mvT hZ (hw _ (List.mem_of_getElem? (i := 14) rfl))) (notFace_of_selects (args := #[]) (mvT hZ (hw _ (List.mem_of_getElem? (i := 16) rfl)))) (mvT hZ (hw _ (List.mem_of_getElem? (i := 16) rfl))) (mvT hZ (hw _ (List.mem_of_getElem? (i := 15) rfl))) (by decide) (own_back (W := 0) (rm3_1 l Z a0 hw []  A hW h0 x0 ) hZ (hw _ (List.mem_of_getElem? (i := 17) rfl)) (hw _ (List.mem_of_getElem? (i := 9) rfl)) (by decide) (by decide)) q10a q10c (g := (mkF m 43 #[.val (.int p0), .val (.int p1), .val (.int (0 : Int32)), .val (.int (1 : Int32)), .val (.int (0 : Int32))] [(.ref (A 3)), (.ref (A 0))])) rfl (by rw [hml]; rfl) (Steps.refl _) (argsL := [(.ref (A 3))]) (rest := []) (lenOf pd_2 rfl) rfl (by show 2 * 0 + _ ≤ _; exact Nat.le_of_eq rfl) (hb hby at_43) (fun _ _ => ⟨rfl, e9, (by decide : 0 + 0 ≤ _), (by decide : 0 + 0 ≤ _)⟩)
      dsimp only [Pt.U, Pt.locs, Pt.cells, Pt.slots] at X10 l10 y10 z10 st10 hQ10
      subst l10 y10 z10
      obtain ⟨rfl, N10q, e10⟩ := hQ10
      have N10 := Fr.app N9 N10q
      refine own_go (B := T10.setTop (mkF m 46 #[.val (.int p0), .val (.int p1), .val (.int (0 : Int32)), .val (.int (1 : Int32)), .val (.int (0 : Int32))] [(.int (0 : Int32))])) (fun _ k => st10.trans k) ?_
      refine own_go (B := T10.setTop (mkF m 48 #[.val (.int p0), .val (.int p1), .val (.int (0 : Int32)), .val (.int (1 : Int32)), .val (.int (0 : Int32))] [(.int (0 : Int32)), (.int (0 : Int32))])) (fun _ k => XS.iload X10.here hx rfl (hb hby at_46) rfl k) ?_
      refine own_go (B := T10.setTop (mkF m 51 #[.val (.int p0), .val (.int p1), .val (.int (0 : Int32)), .val (.int (1 : Int32)), .val (.int (0 : Int32))] [])) (fun _ k => XS.icmpNo X10.here hx rfl (hb hby at_48) rfl (by decide) k) ?_
      refine own_go (B := T10.setTop (mkF m 52 #[.val (.int p0), .val (.int p1), .val (.int (0 : Int32)), .val (.int (1 : Int32)), .val (.int (0 : Int32))] [(.int (1 : Int32))])) (fun _ k => XT.iconstV X10.here hx rfl (1 : Int32) (hb hby at_51) rfl k) ?_
      refine own_go (B := T10.setTop (mkF m 56 #[.val (.int p0), .val (.int p1), .val (.int (0 : Int32)), .val (.int (1 : Int32)), .val (.int (0 : Int32))] [(.int (1 : Int32))])) (fun _ k => XS.goto X10.here hx rfl (pc0 := 52) (pc' := 56) rfl (hb hby at_52) (by decide) (by decide) k) ?_
      exact own_ret X10 hx (t := .boolean) hrt rfl (Or.inl ⟨rfl, by simp, _, rfl⟩) (hb hby at_56) hlk ⟨rfl, N10⟩ (by decide) (by decide)
    · refine own_go (B := s₁.setTop (mkF m 15 #[.val (.int p0), .val (.int p1), .val (.int (0 : Int32)), .val (.int (2 : Int32)), .unset] [(.int (0 : Int32))])) (fun _ k => XS.iloadN X0.here hx rfl (hb hby at_14) rfl k) ?_
      obtain ⟨_, _, ⟨T11, L11, k11, n11⟩, -, X11, ⟨Lc11, hQ11, l11, y11, z11⟩, st11⟩ := Jvm.LawKit.callS X0 hx (y := (⟨"com/example/oblate/oblate/FrameNeedsReferencePinLaw", "isLocalByDoc", "(I)Z"⟩ : MethodName)) hown (mvT hZ (hw _ (List.mem_of_getElem? (i := 1) rfl))) (mvT hZ (hw _ (List.mem_of_getElem? (i := 2) rfl))) (mvT hZ (hw _ (List.mem_of_getElem? (i := 3) rfl))) (mvT hZ (hw _ (List.mem_of_getElem? (i := 4) rfl))) (by decide) (own_back (W := 0) (rm1_0 l Z a0 hw []  A hW h0 x0 ) hZ (hw _ (List.mem_of_getElem? (i := 4) rfl)) (hw _ (List.mem_of_getElem? (i := 3) rfl)) (by decide) (by decide)) (g := (mkF m 15 #[.val (.int p0), .val (.int p1), .val (.int (0 : Int32)), .val (.int (2 : Int32)), .unset] [(.int (0 : Int32))])) rfl (by rw [hml]; rfl) (argsL := [(.int (0 : Int32))]) (rest := []) (lenOf pd_0 rfl) rfl (by show 2 * 0 + _ ≤ _; exact Nat.le_of_eq rfl) (hb hby at_15) (fun _ _ => ⟨rfl, e0, (by decide : 0 + 0 ≤ _), (by decide : 0 + 0 ≤ _)⟩)
      dsimp only [Pt.U, Pt.locs, Pt.cells, Pt.slots] at X11 l11 y11 z11 st11 hQ11
      subst l11 y11 z11
      obtain ⟨rfl, N11q, e11⟩ := hQ11
      have N11 := Fr.app N0 N11q
      refine own_go (B := T11.setTop (mkF m 18 #[.val (.int p0), .val (.int p1), .val (.int (0 : Int32)), .val (.int (2 : Int32)), .unset] [(.int (0 : Int32))])) st11 ?_
      refine own_go (B := T11.setTop (mkF m 21 #[.val (.int p0), .val (.int p1), .val (.int (0 : Int32)), .val (.int (2 : Int32)), .unset] [])) (fun _ k => XS.ifNo X11.here hx rfl (hb hby at_18) rfl (by decide) k) ?_
      refine own_go (B := T11.setTop (mkF m 22 #[.val (.int p0), .val (.int p1), .val (.int (0 : Int32)), .val (.int (2 : Int32)), .unset] [(.int (2 : Int32))])) (fun _ k => XS.iloadN X11.here hx rfl (hb hby at_21) rfl k) ?_
      obtain ⟨_, _, ⟨T12, L12, k12, n12⟩, -, X12, ⟨Lc12, hQ12, l12, y12, z12⟩, st12⟩ := Jvm.LawKit.callS X11 hx (y := (⟨"com/example/oblate/oblate/FrameNeedsReferencePinLaw", "isLocalByDoc", "(I)Z"⟩ : MethodName)) hown (mvT hZ (hw _ (List.mem_of_getElem? (i := 1) rfl))) (mvT hZ (hw _ (List.mem_of_getElem? (i := 2) rfl))) (mvT hZ (hw _ (List.mem_of_getElem? (i := 3) rfl))) (mvT hZ (hw _ (List.mem_of_getElem? (i := 4) rfl))) (by decide) (own_back (W := 0) (rm1_2 l Z a0 hw []  A hW h0 x0 ) hZ (hw _ (List.mem_of_getElem? (i := 4) rfl)) (hw _ (List.mem_of_getElem? (i := 3) rfl)) (by decide) (by decide)) (g := (mkF m 22 #[.val (.int p0), .val (.int p1), .val (.int (0 : Int32)), .val (.int (2 : Int32)), .unset] [(.int (2 : Int32))])) rfl (by rw [hml]; rfl) (argsL := [(.int (2 : Int32))]) (rest := []) (lenOf pd_0 rfl) rfl (by show 2 * 0 + _ ≤ _; exact Nat.le_of_eq rfl) (hb hby at_22) (fun _ _ => ⟨rfl, e11, (by decide : 0 + 0 ≤ _), (by decide : 0 + 0 ≤ _)⟩)
      dsimp only [Pt.U, Pt.locs, Pt.cells, Pt.slots] at X12 l12 y12 z12 st12 hQ12
      subst l12 y12 z12
      obtain ⟨rfl, N12q, e12⟩ := hQ12
      have N12 := Fr.app N11 N12q
      refine own_go (B := T12.setTop (mkF m 25 #[.val (.int p0), .val (.int p1), .val (.int (0 : Int32)), .val (.int (2 : Int32)), .unset] [(.int (1 : Int32))])) st12 ?_
      refine own_go (B := T12.setTop (mkF m 28 #[.val (.int p0), .val (.int p1), .val (.int (0 : Int32)), .val (.int (2 : Int32)), .unset] [])) (fun _ k => XS.ifNo X12.here hx rfl (hb hby at_25) rfl (by decide) k) ?_
      refine own_go (B := T12.setTop (mkF m 29 #[.val (.int p0), .val (.int p1), .val (.int (0 : Int32)), .val (.int (2 : Int32)), .unset] [(.int (1 : Int32))])) (fun _ k => XT.iconstV X12.here hx rfl (1 : Int32) (hb hby at_28) rfl k) ?_
      refine own_go (B := T12.setTop (mkF m 33 #[.val (.int p0), .val (.int p1), .val (.int (0 : Int32)), .val (.int (2 : Int32)), .unset] [(.int (1 : Int32))])) (fun _ k => XS.goto X12.here hx rfl (pc0 := 29) (pc' := 33) rfl (hb hby at_29) (by decide) (by decide) k) ?_
      refine own_go (B := T12.setTop (mkF m 35 #[.val (.int p0), .val (.int p1), .val (.int (0 : Int32)), .val (.int (2 : Int32)), .val (.int (1 : Int32))] [])) (fun _ k => XS.istore X12.here hx rfl (hb hby at_33) rfl (l' := #[.val (.int p0), .val (.int p1), .val (.int (0 : Int32)), .val (.int (2 : Int32)), .val (.int (1 : Int32))]) rfl k) ?_
      refine own_go (B := T12.setTop (mkF m 36 #[.val (.int p0), .val (.int p1), .val (.int (0 : Int32)), .val (.int (2 : Int32)), .val (.int (1 : Int32))] [(.int (0 : Int32))])) (fun _ k => XS.iloadN X12.here hx rfl (hb hby at_35) rfl k) ?_
      obtain ⟨_, _, ⟨T13, L13, k13, n13⟩, -, X13, ⟨Lc13, hQ13, l13, y13, z13⟩, st13⟩ := Jvm.LawKit.callS X12 hx (y := (⟨"com/example/oblate/oblate/FrameNeedsReferencePinLaw", "pick", "(I)Lcom/example/oblate/oblate/Frame;"⟩ : MethodName)) hown (mvT hZ (hw _ (List.mem_of_getElem? (i := 5) rfl))) (mvT hZ (hw _ (List.mem_of_getElem? (i := 6) rfl))) (mvT hZ (hw _ (List.mem_of_getElem? (i := 3) rfl))) (mvT hZ (hw _ (List.mem_of_getElem? (i := 7) rfl))) (by decide) (own_back (W := 0) (rm2_0 l Z a0 hw []  A hW h0 x0 ) hZ (hw _ (List.mem_of_getElem? (i := 7) rfl)) (hw _ (List.mem_of_getElem? (i := 3) rfl)) (by decide) (by decide)) (g := (mkF m 36 #[.val (.int p0), .val (.int p1), .val (.int (0 : Int32)), .val (.int (2 : Int32)), .val (.int (1 : Int32))] [(.int (0 : Int32))])) rfl (by rw [hml]; rfl) (argsL := [(.int (0 : Int32))]) (rest := []) (lenOf pd_1 rfl) rfl (by show 2 * 0 + _ ≤ _; exact Nat.le_of_eq rfl) (hb hby at_36) (fun _ _ => ⟨rfl, e12, (by decide : 0 + 0 ≤ _), (by decide : 0 + 0 ≤ _)⟩)
      dsimp only [Pt.U, Pt.locs, Pt.cells, Pt.slots] at X13 l13 y13 z13 st13 hQ13
      subst l13 y13 z13
      obtain ⟨rfl, N13q, e13⟩ := hQ13
      have N13 := Fr.app N12 N13q
      refine own_go (B := T13.setTop (mkF m 39 #[.val (.int p0), .val (.int p1), .val (.int (0 : Int32)), .val (.int (2 : Int32)), .val (.int (1 : Int32))] [(.ref (A 0))])) st13 ?_
      refine own_go (B := T13.setTop (mkF m 40 #[.val (.int p0), .val (.int p1), .val (.int (0 : Int32)), .val (.int (2 : Int32)), .val (.int (1 : Int32))] [(.int (2 : Int32)), (.ref (A 0))])) (fun _ k => XS.iloadN X13.here hx rfl (hb hby at_39) rfl k) ?_
      obtain ⟨_, _, ⟨T14, L14, k14, n14⟩, -, X14, ⟨Lc14, hQ14, l14, y14, z14⟩, st14⟩ := Jvm.LawKit.callS X13 hx (y := (⟨"com/example/oblate/oblate/FrameNeedsReferencePinLaw", "pick", "(I)Lcom/example/oblate/oblate/Frame;"⟩ : MethodName)) hown (mvT hZ (hw _ (List.mem_of_getElem? (i := 5) rfl))) (mvT hZ (hw _ (List.mem_of_getElem? (i := 6) rfl))) (mvT hZ (hw _ (List.mem_of_getElem? (i := 3) rfl))) (mvT hZ (hw _ (List.mem_of_getElem? (i := 7) rfl))) (by decide) (own_back (W := 1) (rm2_2 l Z a0 hw []  A hW h0 x0 ) hZ (hw _ (List.mem_of_getElem? (i := 7) rfl)) (hw _ (List.mem_of_getElem? (i := 3) rfl)) (by decide) (by decide)) (g := (mkF m 40 #[.val (.int p0), .val (.int p1), .val (.int (0 : Int32)), .val (.int (2 : Int32)), .val (.int (1 : Int32))] [(.int (2 : Int32)), (.ref (A 0))])) rfl (by rw [hml]; rfl) (argsL := [(.int (2 : Int32))]) (rest := [(.ref (A 0))]) (lenOf pd_1 rfl) rfl (by show 2 * 0 + _ ≤ _; exact Nat.le_of_eq rfl) (hb hby at_40) (fun _ _ => ⟨rfl, e13, (by decide : 0 + 0 ≤ _), (by decide : 0 + 0 ≤ _)⟩)
      dsimp only [Pt.U, Pt.locs, Pt.cells, Pt.slots] at X14 l14 y14 z14 st14 hQ14
      subst l14 y14 z14
      obtain ⟨rfl, N14q, e14⟩ := hQ14
      have N14 := Fr.app N13 N14q
      refine own_go (B := T14.setTop (mkF m 43 #[.val (.int p0), .val (.int p1), .val (.int (0 : Int32)), .val (.int (2 : Int32)), .val (.int (1 : Int32))] [(.ref (A 4)), (.ref (A 0))])) st14 ?_
      obtain ⟨cq15, kq15, q15a, q15b, q15c⟩ := isOf hZ e14 (E_GEODETIC.ext x0)
      obtain ⟨_, _, ⟨T15, L15, k15, n15⟩, -, X15, ⟨Lc15, hQ15, l15, y15, z15⟩, st15⟩ := X14.virtualBack hx (y := (⟨"com/example/oblate/oblate/Frame", "needsReference", "(Lcom/example/oblate/oblate/Frame;)Z"⟩ : MethodName)) (z := (⟨"com/example/oblate/oblate/Frame", "needsReference", "(Lcom/example/oblate/oblate/Frame;)Z"⟩ : MethodName)) hown (mvT hZ (hw _ (List.mem_of_getElem? (i := 13) rfl))) (mvT hZ (hw _ (List.mem_of_getElem? (i := 14) rfl))) (notFace_of_selects (args := #[]) (mvT hZ (hw _ (List.mem_of_getElem? (i := 16) rfl)))) (mvT hZ (hw _ (List.mem_of_getElem? (i := 16) rfl))) (mvT hZ (hw _ (List.mem_of_getElem? (i := 15) rfl))) (by decide) (own_back (W := 0) (rm3_2 l Z a0 hw []  A hW h0 x0 ) hZ (hw _ (List.mem_of_getElem? (i := 17) rfl)) (hw _ (List.mem_of_getElem? (i := 9) rfl)) (by decide) (by decide)) q15a q15c (g := (mkF m 43 #[.val (.int p0), .val (.int p1), .val (.int (0 : Int32)), .val (.int (2 : Int32)), .val (.int (1 : Int32))] [(.ref (A 4)), (.ref (A 0))])) rfl (by rw [hml]; rfl) (Steps.refl _) (argsL := [(.ref (A 4))]) (rest := []) (lenOf pd_2 rfl) rfl (by show 2 * 0 + _ ≤ _; exact Nat.le_of_eq rfl) (hb hby at_43) (fun _ _ => ⟨rfl, e14, (by decide : 0 + 0 ≤ _), (by decide : 0 + 0 ≤ _)⟩)
      dsimp only [Pt.U, Pt.locs, Pt.cells, Pt.slots] at X15 l15 y15 z15 st15 hQ15
      subst l15 y15 z15
      obtain ⟨rfl, N15q, e15⟩ := hQ15
      have N15 := Fr.app N14 N15q
      refine own_go (B := T15.setTop (mkF m 46 #[.val (.int p0), .val (.int p1), .val (.int (0 : Int32)), .val (.int (2 : Int32)), .val (.int (1 : Int32))] [(.int (1 : Int32))])) (fun _ k => st15.trans k) ?_
      refine own_go (B := T15.setTop (mkF m 48 #[.val (.int p0), .val (.int p1), .val (.int (0 : Int32)), .val (.int (2 : Int32)), .val (.int (1 : Int32))] [(.int (1 : Int32)), (.int (1 : Int32))])) (fun _ k => XS.iload X15.here hx rfl (hb hby at_46) rfl k) ?_
      refine own_go (B := T15.setTop (mkF m 51 #[.val (.int p0), .val (.int p1), .val (.int (0 : Int32)), .val (.int (2 : Int32)), .val (.int (1 : Int32))] [])) (fun _ k => XS.icmpNo X15.here hx rfl (hb hby at_48) rfl (by decide) k) ?_
      refine own_go (B := T15.setTop (mkF m 52 #[.val (.int p0), .val (.int p1), .val (.int (0 : Int32)), .val (.int (2 : Int32)), .val (.int (1 : Int32))] [(.int (1 : Int32))])) (fun _ k => XT.iconstV X15.here hx rfl (1 : Int32) (hb hby at_51) rfl k) ?_
      refine own_go (B := T15.setTop (mkF m 56 #[.val (.int p0), .val (.int p1), .val (.int (0 : Int32)), .val (.int (2 : Int32)), .val (.int (1 : Int32))] [(.int (1 : Int32))])) (fun _ k => XS.goto X15.here hx rfl (pc0 := 52) (pc' := 56) rfl (hb hby at_52) (by decide) (by decide) k) ?_
      exact own_ret X15 hx (t := .boolean) hrt rfl (Or.inl ⟨rfl, by simp, _, rfl⟩) (hb hby at_56) hlk ⟨rfl, N15⟩ (by decide) (by decide)
    · refine own_go (B := s₁.setTop (mkF m 15 #[.val (.int p0), .val (.int p1), .val (.int (0 : Int32)), .val (.int (3 : Int32)), .unset] [(.int (0 : Int32))])) (fun _ k => XS.iloadN X0.here hx rfl (hb hby at_14) rfl k) ?_
      obtain ⟨_, _, ⟨T16, L16, k16, n16⟩, -, X16, ⟨Lc16, hQ16, l16, y16, z16⟩, st16⟩ := Jvm.LawKit.callS X0 hx (y := (⟨"com/example/oblate/oblate/FrameNeedsReferencePinLaw", "isLocalByDoc", "(I)Z"⟩ : MethodName)) hown (mvT hZ (hw _ (List.mem_of_getElem? (i := 1) rfl))) (mvT hZ (hw _ (List.mem_of_getElem? (i := 2) rfl))) (mvT hZ (hw _ (List.mem_of_getElem? (i := 3) rfl))) (mvT hZ (hw _ (List.mem_of_getElem? (i := 4) rfl))) (by decide) (own_back (W := 0) (rm1_0 l Z a0 hw []  A hW h0 x0 ) hZ (hw _ (List.mem_of_getElem? (i := 4) rfl)) (hw _ (List.mem_of_getElem? (i := 3) rfl)) (by decide) (by decide)) (g := (mkF m 15 #[.val (.int p0), .val (.int p1), .val (.int (0 : Int32)), .val (.int (3 : Int32)), .unset] [(.int (0 : Int32))])) rfl (by rw [hml]; rfl) (argsL := [(.int (0 : Int32))]) (rest := []) (lenOf pd_0 rfl) rfl (by show 2 * 0 + _ ≤ _; exact Nat.le_of_eq rfl) (hb hby at_15) (fun _ _ => ⟨rfl, e0, (by decide : 0 + 0 ≤ _), (by decide : 0 + 0 ≤ _)⟩)
      dsimp only [Pt.U, Pt.locs, Pt.cells, Pt.slots] at X16 l16 y16 z16 st16 hQ16
      subst l16 y16 z16
      obtain ⟨rfl, N16q, e16⟩ := hQ16
      have N16 := Fr.app N0 N16q
      refine own_go (B := T16.setTop (mkF m 18 #[.val (.int p0), .val (.int p1), .val (.int (0 : Int32)), .val (.int (3 : Int32)), .unset] [(.int (0 : Int32))])) st16 ?_
      refine own_go (B := T16.setTop (mkF m 21 #[.val (.int p0), .val (.int p1), .val (.int (0 : Int32)), .val (.int (3 : Int32)), .unset] [])) (fun _ k => XS.ifNo X16.here hx rfl (hb hby at_18) rfl (by decide) k) ?_
      refine own_go (B := T16.setTop (mkF m 22 #[.val (.int p0), .val (.int p1), .val (.int (0 : Int32)), .val (.int (3 : Int32)), .unset] [(.int (3 : Int32))])) (fun _ k => XS.iloadN X16.here hx rfl (hb hby at_21) rfl k) ?_
      obtain ⟨_, _, ⟨T17, L17, k17, n17⟩, -, X17, ⟨Lc17, hQ17, l17, y17, z17⟩, st17⟩ := Jvm.LawKit.callS X16 hx (y := (⟨"com/example/oblate/oblate/FrameNeedsReferencePinLaw", "isLocalByDoc", "(I)Z"⟩ : MethodName)) hown (mvT hZ (hw _ (List.mem_of_getElem? (i := 1) rfl))) (mvT hZ (hw _ (List.mem_of_getElem? (i := 2) rfl))) (mvT hZ (hw _ (List.mem_of_getElem? (i := 3) rfl))) (mvT hZ (hw _ (List.mem_of_getElem? (i := 4) rfl))) (by decide) (own_back (W := 0) (rm1_3 l Z a0 hw []  A hW h0 x0 ) hZ (hw _ (List.mem_of_getElem? (i := 4) rfl)) (hw _ (List.mem_of_getElem? (i := 3) rfl)) (by decide) (by decide)) (g := (mkF m 22 #[.val (.int p0), .val (.int p1), .val (.int (0 : Int32)), .val (.int (3 : Int32)), .unset] [(.int (3 : Int32))])) rfl (by rw [hml]; rfl) (argsL := [(.int (3 : Int32))]) (rest := []) (lenOf pd_0 rfl) rfl (by show 2 * 0 + _ ≤ _; exact Nat.le_of_eq rfl) (hb hby at_22) (fun _ _ => ⟨rfl, e16, (by decide : 0 + 0 ≤ _), (by decide : 0 + 0 ≤ _)⟩)
      dsimp only [Pt.U, Pt.locs, Pt.cells, Pt.slots] at X17 l17 y17 z17 st17 hQ17
      subst l17 y17 z17
      obtain ⟨rfl, N17q, e17⟩ := hQ17
      have N17 := Fr.app N16 N17q
      refine own_go (B := T17.setTop (mkF m 25 #[.val (.int p0), .val (.int p1), .val (.int (0 : Int32)), .val (.int (3 : Int32)), .unset] [(.int (1 : Int32))])) st17 ?_
      refine own_go (B := T17.setTop (mkF m 28 #[.val (.int p0), .val (.int p1), .val (.int (0 : Int32)), .val (.int (3 : Int32)), .unset] [])) (fun _ k => XS.ifNo X17.here hx rfl (hb hby at_25) rfl (by decide) k) ?_
      refine own_go (B := T17.setTop (mkF m 29 #[.val (.int p0), .val (.int p1), .val (.int (0 : Int32)), .val (.int (3 : Int32)), .unset] [(.int (1 : Int32))])) (fun _ k => XT.iconstV X17.here hx rfl (1 : Int32) (hb hby at_28) rfl k) ?_
      refine own_go (B := T17.setTop (mkF m 33 #[.val (.int p0), .val (.int p1), .val (.int (0 : Int32)), .val (.int (3 : Int32)), .unset] [(.int (1 : Int32))])) (fun _ k => XS.goto X17.here hx rfl (pc0 := 29) (pc' := 33) rfl (hb hby at_29) (by decide) (by decide) k) ?_
      refine own_go (B := T17.setTop (mkF m 35 #[.val (.int p0), .val (.int p1), .val (.int (0 : Int32)), .val (.int (3 : Int32)), .val (.int (1 : Int32))] [])) (fun _ k => XS.istore X17.here hx rfl (hb hby at_33) rfl (l' := #[.val (.int p0), .val (.int p1), .val (.int (0 : Int32)), .val (.int (3 : Int32)), .val (.int (1 : Int32))]) rfl k) ?_
      refine own_go (B := T17.setTop (mkF m 36 #[.val (.int p0), .val (.int p1), .val (.int (0 : Int32)), .val (.int (3 : Int32)), .val (.int (1 : Int32))] [(.int (0 : Int32))])) (fun _ k => XS.iloadN X17.here hx rfl (hb hby at_35) rfl k) ?_
      obtain ⟨_, _, ⟨T18, L18, k18, n18⟩, -, X18, ⟨Lc18, hQ18, l18, y18, z18⟩, st18⟩ := Jvm.LawKit.callS X17 hx (y := (⟨"com/example/oblate/oblate/FrameNeedsReferencePinLaw", "pick", "(I)Lcom/example/oblate/oblate/Frame;"⟩ : MethodName)) hown (mvT hZ (hw _ (List.mem_of_getElem? (i := 5) rfl))) (mvT hZ (hw _ (List.mem_of_getElem? (i := 6) rfl))) (mvT hZ (hw _ (List.mem_of_getElem? (i := 3) rfl))) (mvT hZ (hw _ (List.mem_of_getElem? (i := 7) rfl))) (by decide) (own_back (W := 0) (rm2_0 l Z a0 hw []  A hW h0 x0 ) hZ (hw _ (List.mem_of_getElem? (i := 7) rfl)) (hw _ (List.mem_of_getElem? (i := 3) rfl)) (by decide) (by decide)) (g := (mkF m 36 #[.val (.int p0), .val (.int p1), .val (.int (0 : Int32)), .val (.int (3 : Int32)), .val (.int (1 : Int32))] [(.int (0 : Int32))])) rfl (by rw [hml]; rfl) (argsL := [(.int (0 : Int32))]) (rest := []) (lenOf pd_1 rfl) rfl (by show 2 * 0 + _ ≤ _; exact Nat.le_of_eq rfl) (hb hby at_36) (fun _ _ => ⟨rfl, e17, (by decide : 0 + 0 ≤ _), (by decide : 0 + 0 ≤ _)⟩)
      dsimp only [Pt.U, Pt.locs, Pt.cells, Pt.slots] at X18 l18 y18 z18 st18 hQ18
      subst l18 y18 z18
      obtain ⟨rfl, N18q, e18⟩ := hQ18
      have N18 := Fr.app N17 N18q
      refine own_go (B := T18.setTop (mkF m 39 #[.val (.int p0), .val (.int p1), .val (.int (0 : Int32)), .val (.int (3 : Int32)), .val (.int (1 : Int32))] [(.ref (A 0))])) st18 ?_
      refine own_go (B := T18.setTop (mkF m 40 #[.val (.int p0), .val (.int p1), .val (.int (0 : Int32)), .val (.int (3 : Int32)), .val (.int (1 : Int32))] [(.int (3 : Int32)), (.ref (A 0))])) (fun _ k => XS.iloadN X18.here hx rfl (hb hby at_39) rfl k) ?_
      obtain ⟨_, _, ⟨T19, L19, k19, n19⟩, -, X19, ⟨Lc19, hQ19, l19, y19, z19⟩, st19⟩ := Jvm.LawKit.callS X18 hx (y := (⟨"com/example/oblate/oblate/FrameNeedsReferencePinLaw", "pick", "(I)Lcom/example/oblate/oblate/Frame;"⟩ : MethodName)) hown (mvT hZ (hw _ (List.mem_of_getElem? (i := 5) rfl))) (mvT hZ (hw _ (List.mem_of_getElem? (i := 6) rfl))) (mvT hZ (hw _ (List.mem_of_getElem? (i := 3) rfl))) (mvT hZ (hw _ (List.mem_of_getElem? (i := 7) rfl))) (by decide) (own_back (W := 1) (rm2_3 l Z a0 hw []  A hW h0 x0 ) hZ (hw _ (List.mem_of_getElem? (i := 7) rfl)) (hw _ (List.mem_of_getElem? (i := 3) rfl)) (by decide) (by decide)) (g := (mkF m 40 #[.val (.int p0), .val (.int p1), .val (.int (0 : Int32)), .val (.int (3 : Int32)), .val (.int (1 : Int32))] [(.int (3 : Int32)), (.ref (A 0))])) rfl (by rw [hml]; rfl) (argsL := [(.int (3 : Int32))]) (rest := [(.ref (A 0))]) (lenOf pd_1 rfl) rfl (by show 2 * 0 + _ ≤ _; exact Nat.le_of_eq rfl) (hb hby at_40) (fun _ _ => ⟨rfl, e18, (by decide : 0 + 0 ≤ _), (by decide : 0 + 0 ≤ _)⟩)
      dsimp only [Pt.U, Pt.locs, Pt.cells, Pt.slots] at X19 l19 y19 z19 st19 hQ19
      subst l19 y19 z19
      obtain ⟨rfl, N19q, e19⟩ := hQ19
      have N19 := Fr.app N18 N19q
      refine own_go (B := T19.setTop (mkF m 43 #[.val (.int p0), .val (.int p1), .val (.int (0 : Int32)), .val (.int (3 : Int32)), .val (.int (1 : Int32))] [(.ref (A 1)), (.ref (A 0))])) st19 ?_
      obtain ⟨cq20, kq20, q20a, q20b, q20c⟩ := isOf hZ e19 (E_GEODETIC.ext x0)
      obtain ⟨_, _, ⟨T20, L20, k20, n20⟩, -, X20, ⟨Lc20, hQ20, l20, y20, z20⟩, st20⟩ := X19.virtualBack hx (y := (⟨"com/example/oblate/oblate/Frame", "needsReference", "(Lcom/example/oblate/oblate/Frame;)Z"⟩ : MethodName)) (z := (⟨"com/example/oblate/oblate/Frame", "needsReference", "(Lcom/example/oblate/oblate/Frame;)Z"⟩ : MethodName)) hown (mvT hZ (hw _ (List.mem_of_getElem? (i := 13) rfl))) (mvT hZ (hw _ (List.mem_of_getElem? (i := 14) rfl))) (notFace_of_selects (args := #[]) (mvT hZ (hw _ (List.mem_of_getElem? (i := 16) rfl)))) (mvT hZ (hw _ (List.mem_of_getElem? (i := 16) rfl))) (mvT hZ (hw _ (List.mem_of_getElem? (i := 15) rfl))) (by decide) (own_back (W := 0) (rm3_3 l Z a0 hw []  A hW h0 x0 ) hZ (hw _ (List.mem_of_getElem? (i := 17) rfl)) (hw _ (List.mem_of_getElem? (i := 9) rfl)) (by decide) (by decide)) q20a q20c (g := (mkF m 43 #[.val (.int p0), .val (.int p1), .val (.int (0 : Int32)), .val (.int (3 : Int32)), .val (.int (1 : Int32))] [(.ref (A 1)), (.ref (A 0))])) rfl (by rw [hml]; rfl) (Steps.refl _) (argsL := [(.ref (A 1))]) (rest := []) (lenOf pd_2 rfl) rfl (by show 2 * 0 + _ ≤ _; exact Nat.le_of_eq rfl) (hb hby at_43) (fun _ _ => ⟨rfl, e19, (by decide : 0 + 0 ≤ _), (by decide : 0 + 0 ≤ _)⟩)
      dsimp only [Pt.U, Pt.locs, Pt.cells, Pt.slots] at X20 l20 y20 z20 st20 hQ20
      subst l20 y20 z20
      obtain ⟨rfl, N20q, e20⟩ := hQ20
      have N20 := Fr.app N19 N20q
      refine own_go (B := T20.setTop (mkF m 46 #[.val (.int p0), .val (.int p1), .val (.int (0 : Int32)), .val (.int (3 : Int32)), .val (.int (1 : Int32))] [(.int (1 : Int32))])) (fun _ k => st20.trans k) ?_
      refine own_go (B := T20.setTop (mkF m 48 #[.val (.int p0), .val (.int p1), .val (.int (0 : Int32)), .val (.int (3 : Int32)), .val (.int (1 : Int32))] [(.int (1 : Int32)), (.int (1 : Int32))])) (fun _ k => XS.iload X20.here hx rfl (hb hby at_46) rfl k) ?_
      refine own_go (B := T20.setTop (mkF m 51 #[.val (.int p0), .val (.int p1), .val (.int (0 : Int32)), .val (.int (3 : Int32)), .val (.int (1 : Int32))] [])) (fun _ k => XS.icmpNo X20.here hx rfl (hb hby at_48) rfl (by decide) k) ?_
      refine own_go (B := T20.setTop (mkF m 52 #[.val (.int p0), .val (.int p1), .val (.int (0 : Int32)), .val (.int (3 : Int32)), .val (.int (1 : Int32))] [(.int (1 : Int32))])) (fun _ k => XT.iconstV X20.here hx rfl (1 : Int32) (hb hby at_51) rfl k) ?_
      refine own_go (B := T20.setTop (mkF m 56 #[.val (.int p0), .val (.int p1), .val (.int (0 : Int32)), .val (.int (3 : Int32)), .val (.int (1 : Int32))] [(.int (1 : Int32))])) (fun _ k => XS.goto X20.here hx rfl (pc0 := 52) (pc' := 56) rfl (hb hby at_52) (by decide) (by decide) k) ?_
      exact own_ret X20 hx (t := .boolean) hrt rfl (Or.inl ⟨rfl, by simp, _, rfl⟩) (hb hby at_56) hlk ⟨rfl, N20⟩ (by decide) (by decide)
    · refine own_go (B := s₁.setTop (mkF m 15 #[.val (.int p0), .val (.int p1), .val (.int (0 : Int32)), .val (.int (4 : Int32)), .unset] [(.int (0 : Int32))])) (fun _ k => XS.iloadN X0.here hx rfl (hb hby at_14) rfl k) ?_
      obtain ⟨_, _, ⟨T21, L21, k21, n21⟩, -, X21, ⟨Lc21, hQ21, l21, y21, z21⟩, st21⟩ := Jvm.LawKit.callS X0 hx (y := (⟨"com/example/oblate/oblate/FrameNeedsReferencePinLaw", "isLocalByDoc", "(I)Z"⟩ : MethodName)) hown (mvT hZ (hw _ (List.mem_of_getElem? (i := 1) rfl))) (mvT hZ (hw _ (List.mem_of_getElem? (i := 2) rfl))) (mvT hZ (hw _ (List.mem_of_getElem? (i := 3) rfl))) (mvT hZ (hw _ (List.mem_of_getElem? (i := 4) rfl))) (by decide) (own_back (W := 0) (rm1_0 l Z a0 hw []  A hW h0 x0 ) hZ (hw _ (List.mem_of_getElem? (i := 4) rfl)) (hw _ (List.mem_of_getElem? (i := 3) rfl)) (by decide) (by decide)) (g := (mkF m 15 #[.val (.int p0), .val (.int p1), .val (.int (0 : Int32)), .val (.int (4 : Int32)), .unset] [(.int (0 : Int32))])) rfl (by rw [hml]; rfl) (argsL := [(.int (0 : Int32))]) (rest := []) (lenOf pd_0 rfl) rfl (by show 2 * 0 + _ ≤ _; exact Nat.le_of_eq rfl) (hb hby at_15) (fun _ _ => ⟨rfl, e0, (by decide : 0 + 0 ≤ _), (by decide : 0 + 0 ≤ _)⟩)
      dsimp only [Pt.U, Pt.locs, Pt.cells, Pt.slots] at X21 l21 y21 z21 st21 hQ21
      subst l21 y21 z21
      obtain ⟨rfl, N21q, e21⟩ := hQ21
      have N21 := Fr.app N0 N21q
      refine own_go (B := T21.setTop (mkF m 18 #[.val (.int p0), .val (.int p1), .val (.int (0 : Int32)), .val (.int (4 : Int32)), .unset] [(.int (0 : Int32))])) st21 ?_
      refine own_go (B := T21.setTop (mkF m 21 #[.val (.int p0), .val (.int p1), .val (.int (0 : Int32)), .val (.int (4 : Int32)), .unset] [])) (fun _ k => XS.ifNo X21.here hx rfl (hb hby at_18) rfl (by decide) k) ?_
      refine own_go (B := T21.setTop (mkF m 22 #[.val (.int p0), .val (.int p1), .val (.int (0 : Int32)), .val (.int (4 : Int32)), .unset] [(.int (4 : Int32))])) (fun _ k => XS.iloadN X21.here hx rfl (hb hby at_21) rfl k) ?_
      obtain ⟨_, _, ⟨T22, L22, k22, n22⟩, -, X22, ⟨Lc22, hQ22, l22, y22, z22⟩, st22⟩ := Jvm.LawKit.callS X21 hx (y := (⟨"com/example/oblate/oblate/FrameNeedsReferencePinLaw", "isLocalByDoc", "(I)Z"⟩ : MethodName)) hown (mvT hZ (hw _ (List.mem_of_getElem? (i := 1) rfl))) (mvT hZ (hw _ (List.mem_of_getElem? (i := 2) rfl))) (mvT hZ (hw _ (List.mem_of_getElem? (i := 3) rfl))) (mvT hZ (hw _ (List.mem_of_getElem? (i := 4) rfl))) (by decide) (own_back (W := 0) (rm1_4 l Z a0 hw []  A hW h0 x0 ) hZ (hw _ (List.mem_of_getElem? (i := 4) rfl)) (hw _ (List.mem_of_getElem? (i := 3) rfl)) (by decide) (by decide)) (g := (mkF m 22 #[.val (.int p0), .val (.int p1), .val (.int (0 : Int32)), .val (.int (4 : Int32)), .unset] [(.int (4 : Int32))])) rfl (by rw [hml]; rfl) (argsL := [(.int (4 : Int32))]) (rest := []) (lenOf pd_0 rfl) rfl (by show 2 * 0 + _ ≤ _; exact Nat.le_of_eq rfl) (hb hby at_22) (fun _ _ => ⟨rfl, e21, (by decide : 0 + 0 ≤ _), (by decide : 0 + 0 ≤ _)⟩)
      dsimp only [Pt.U, Pt.locs, Pt.cells, Pt.slots] at X22 l22 y22 z22 st22 hQ22
      subst l22 y22 z22
      obtain ⟨rfl, N22q, e22⟩ := hQ22
      have N22 := Fr.app N21 N22q
      refine own_go (B := T22.setTop (mkF m 25 #[.val (.int p0), .val (.int p1), .val (.int (0 : Int32)), .val (.int (4 : Int32)), .unset] [(.int (1 : Int32))])) st22 ?_
      refine own_go (B := T22.setTop (mkF m 28 #[.val (.int p0), .val (.int p1), .val (.int (0 : Int32)), .val (.int (4 : Int32)), .unset] [])) (fun _ k => XS.ifNo X22.here hx rfl (hb hby at_25) rfl (by decide) k) ?_
      refine own_go (B := T22.setTop (mkF m 29 #[.val (.int p0), .val (.int p1), .val (.int (0 : Int32)), .val (.int (4 : Int32)), .unset] [(.int (1 : Int32))])) (fun _ k => XT.iconstV X22.here hx rfl (1 : Int32) (hb hby at_28) rfl k) ?_
      refine own_go (B := T22.setTop (mkF m 33 #[.val (.int p0), .val (.int p1), .val (.int (0 : Int32)), .val (.int (4 : Int32)), .unset] [(.int (1 : Int32))])) (fun _ k => XS.goto X22.here hx rfl (pc0 := 29) (pc' := 33) rfl (hb hby at_29) (by decide) (by decide) k) ?_
      refine own_go (B := T22.setTop (mkF m 35 #[.val (.int p0), .val (.int p1), .val (.int (0 : Int32)), .val (.int (4 : Int32)), .val (.int (1 : Int32))] [])) (fun _ k => XS.istore X22.here hx rfl (hb hby at_33) rfl (l' := #[.val (.int p0), .val (.int p1), .val (.int (0 : Int32)), .val (.int (4 : Int32)), .val (.int (1 : Int32))]) rfl k) ?_
      refine own_go (B := T22.setTop (mkF m 36 #[.val (.int p0), .val (.int p1), .val (.int (0 : Int32)), .val (.int (4 : Int32)), .val (.int (1 : Int32))] [(.int (0 : Int32))])) (fun _ k => XS.iloadN X22.here hx rfl (hb hby at_35) rfl k) ?_
      obtain ⟨_, _, ⟨T23, L23, k23, n23⟩, -, X23, ⟨Lc23, hQ23, l23, y23, z23⟩, st23⟩ := Jvm.LawKit.callS X22 hx (y := (⟨"com/example/oblate/oblate/FrameNeedsReferencePinLaw", "pick", "(I)Lcom/example/oblate/oblate/Frame;"⟩ : MethodName)) hown (mvT hZ (hw _ (List.mem_of_getElem? (i := 5) rfl))) (mvT hZ (hw _ (List.mem_of_getElem? (i := 6) rfl))) (mvT hZ (hw _ (List.mem_of_getElem? (i := 3) rfl))) (mvT hZ (hw _ (List.mem_of_getElem? (i := 7) rfl))) (by decide) (own_back (W := 0) (rm2_0 l Z a0 hw []  A hW h0 x0 ) hZ (hw _ (List.mem_of_getElem? (i := 7) rfl)) (hw _ (List.mem_of_getElem? (i := 3) rfl)) (by decide) (by decide)) (g := (mkF m 36 #[.val (.int p0), .val (.int p1), .val (.int (0 : Int32)), .val (.int (4 : Int32)), .val (.int (1 : Int32))] [(.int (0 : Int32))])) rfl (by rw [hml]; rfl) (argsL := [(.int (0 : Int32))]) (rest := []) (lenOf pd_1 rfl) rfl (by show 2 * 0 + _ ≤ _; exact Nat.le_of_eq rfl) (hb hby at_36) (fun _ _ => ⟨rfl, e22, (by decide : 0 + 0 ≤ _), (by decide : 0 + 0 ≤ _)⟩)
      dsimp only [Pt.U, Pt.locs, Pt.cells, Pt.slots] at X23 l23 y23 z23 st23 hQ23
      subst l23 y23 z23
      obtain ⟨rfl, N23q, e23⟩ := hQ23
      have N23 := Fr.app N22 N23q
      refine own_go (B := T23.setTop (mkF m 39 #[.val (.int p0), .val (.int p1), .val (.int (0 : Int32)), .val (.int (4 : Int32)), .val (.int (1 : Int32))] [(.ref (A 0))])) st23 ?_
      refine own_go (B := T23.setTop (mkF m 40 #[.val (.int p0), .val (.int p1), .val (.int (0 : Int32)), .val (.int (4 : Int32)), .val (.int (1 : Int32))] [(.int (4 : Int32)), (.ref (A 0))])) (fun _ k => XS.iloadN X23.here hx rfl (hb hby at_39) rfl k) ?_
      obtain ⟨_, _, ⟨T24, L24, k24, n24⟩, -, X24, ⟨Lc24, hQ24, l24, y24, z24⟩, st24⟩ := Jvm.LawKit.callS X23 hx (y := (⟨"com/example/oblate/oblate/FrameNeedsReferencePinLaw", "pick", "(I)Lcom/example/oblate/oblate/Frame;"⟩ : MethodName)) hown (mvT hZ (hw _ (List.mem_of_getElem? (i := 5) rfl))) (mvT hZ (hw _ (List.mem_of_getElem? (i := 6) rfl))) (mvT hZ (hw _ (List.mem_of_getElem? (i := 3) rfl))) (mvT hZ (hw _ (List.mem_of_getElem? (i := 7) rfl))) (by decide) (own_back (W := 1) (rm2_4 l Z a0 hw []  A hW h0 x0 ) hZ (hw _ (List.mem_of_getElem? (i := 7) rfl)) (hw _ (List.mem_of_getElem? (i := 3) rfl)) (by decide) (by decide)) (g := (mkF m 40 #[.val (.int p0), .val (.int p1), .val (.int (0 : Int32)), .val (.int (4 : Int32)), .val (.int (1 : Int32))] [(.int (4 : Int32)), (.ref (A 0))])) rfl (by rw [hml]; rfl) (argsL := [(.int (4 : Int32))]) (rest := [(.ref (A 0))]) (lenOf pd_1 rfl) rfl (by show 2 * 0 + _ ≤ _; exact Nat.le_of_eq rfl) (hb hby at_40) (fun _ _ => ⟨rfl, e23, (by decide : 0 + 0 ≤ _), (by decide : 0 + 0 ≤ _)⟩)
      dsimp only [Pt.U, Pt.locs, Pt.cells, Pt.slots] at X24 l24 y24 z24 st24 hQ24
      subst l24 y24 z24
      obtain ⟨rfl, N24q, e24⟩ := hQ24
      have N24 := Fr.app N23 N24q
      refine own_go (B := T24.setTop (mkF m 43 #[.val (.int p0), .val (.int p1), .val (.int (0 : Int32)), .val (.int (4 : Int32)), .val (.int (1 : Int32))] [(.ref (A 2)), (.ref (A 0))])) st24 ?_
      obtain ⟨cq25, kq25, q25a, q25b, q25c⟩ := isOf hZ e24 (E_GEODETIC.ext x0)
      obtain ⟨_, _, ⟨T25, L25, k25, n25⟩, -, X25, ⟨Lc25, hQ25, l25, y25, z25⟩, st25⟩ := X24.virtualBack hx (y := (⟨"com/example/oblate/oblate/Frame", "needsReference", "(Lcom/example/oblate/oblate/Frame;)Z"⟩ : MethodName)) (z := (⟨"com/example/oblate/oblate/Frame", "needsReference", "(Lcom/example/oblate/oblate/Frame;)Z"⟩ : MethodName)) hown (mvT hZ (hw _ (List.mem_of_getElem? (i := 13) rfl))) (mvT hZ (hw _ (List.mem_of_getElem? (i := 14) rfl))) (notFace_of_selects (args := #[]) (mvT hZ (hw _ (List.mem_of_getElem? (i := 16) rfl)))) (mvT hZ (hw _ (List.mem_of_getElem? (i := 16) rfl))) (mvT hZ (hw _ (List.mem_of_getElem? (i := 15) rfl))) (by decide) (own_back (W := 0) (rm3_4 l Z a0 hw []  A hW h0 x0 ) hZ (hw _ (List.mem_of_getElem? (i := 17) rfl)) (hw _ (List.mem_of_getElem? (i := 9) rfl)) (by decide) (by decide)) q25a q25c (g := (mkF m 43 #[.val (.int p0), .val (.int p1), .val (.int (0 : Int32)), .val (.int (4 : Int32)), .val (.int (1 : Int32))] [(.ref (A 2)), (.ref (A 0))])) rfl (by rw [hml]; rfl) (Steps.refl _) (argsL := [(.ref (A 2))]) (rest := []) (lenOf pd_2 rfl) rfl (by show 2 * 0 + _ ≤ _; exact Nat.le_of_eq rfl) (hb hby at_43) (fun _ _ => ⟨rfl, e24, (by decide : 0 + 0 ≤ _), (by decide : 0 + 0 ≤ _)⟩)
      dsimp only [Pt.U, Pt.locs, Pt.cells, Pt.slots] at X25 l25 y25 z25 st25 hQ25
      subst l25 y25 z25
      obtain ⟨rfl, N25q, e25⟩ := hQ25
      have N25 := Fr.app N24 N25q
      refine own_go (B := T25.setTop (mkF m 46 #[.val (.int p0), .val (.int p1), .val (.int (0 : Int32)), .val (.int (4 : Int32)), .val (.int (1 : Int32))] [(.int (1 : Int32))])) (fun _ k => st25.trans k) ?_
      refine own_go (B := T25.setTop (mkF m 48 #[.val (.int p0), .val (.int p1), .val (.int (0 : Int32)), .val (.int (4 : Int32)), .val (.int (1 : Int32))] [(.int (1 : Int32)), (.int (1 : Int32))])) (fun _ k => XS.iload X25.here hx rfl (hb hby at_46) rfl k) ?_
      refine own_go (B := T25.setTop (mkF m 51 #[.val (.int p0), .val (.int p1), .val (.int (0 : Int32)), .val (.int (4 : Int32)), .val (.int (1 : Int32))] [])) (fun _ k => XS.icmpNo X25.here hx rfl (hb hby at_48) rfl (by decide) k) ?_
      refine own_go (B := T25.setTop (mkF m 52 #[.val (.int p0), .val (.int p1), .val (.int (0 : Int32)), .val (.int (4 : Int32)), .val (.int (1 : Int32))] [(.int (1 : Int32))])) (fun _ k => XT.iconstV X25.here hx rfl (1 : Int32) (hb hby at_51) rfl k) ?_
      refine own_go (B := T25.setTop (mkF m 56 #[.val (.int p0), .val (.int p1), .val (.int (0 : Int32)), .val (.int (4 : Int32)), .val (.int (1 : Int32))] [(.int (1 : Int32))])) (fun _ k => XS.goto X25.here hx rfl (pc0 := 52) (pc' := 56) rfl (hb hby at_52) (by decide) (by decide) k) ?_
      exact own_ret X25 hx (t := .boolean) hrt rfl (Or.inl ⟨rfl, by simp, _, rfl⟩) (hb hby at_56) hlk ⟨rfl, N25⟩ (by decide) (by decide)
  · refine own_go (B := s₁.setTop (mkF m 8 #[.val (.int p0), .val (.int p1), .val (.int (1 : Int32)), .unset, .unset] [(.int p1)])) (fun _ k => XS.iloadN X0.here hx rfl (hb hby at_7) rfl k) ?_
    refine own_go (B := s₁.setTop (mkF m 10 #[.val (.int p0), .val (.int p1), .val (.int (1 : Int32)), .unset, .unset] [(.int (2147483647 : Int32)), (.int p1)])) (fun _ k => Jvm.Stand.ldcI X0 hx hown (mvT hZ (hw _ (List.mem_of_getElem? (i := 0) rfl))) (g := (mkF m 8 #[.val (.int p0), .val (.int p1), .val (.int (1 : Int32)), .unset, .unset] [(.int p1)])) rfl (hb hby at_8) k) ?_
    refine own_go (B := s₁.setTop (mkF m 11 #[.val (.int p0), .val (.int p1), .val (.int (1 : Int32)), .unset, .unset] [(.int (p1 &&& (2147483647 : Int32)))])) (fun _ k => XS.iand X0.here hx rfl (hb hby at_10) rfl k) ?_
    refine own_go (B := s₁.setTop (mkF m 12 #[.val (.int p0), .val (.int p1), .val (.int (1 : Int32)), .unset, .unset] [(.int (5 : Int32)), (.int (p1 &&& (2147483647 : Int32)))])) (fun _ k => XT.iconstV X0.here hx rfl (5 : Int32) (hb hby at_11) rfl k) ?_
    refine own_go (B := s₁.setTop (mkF m 13 #[.val (.int p0), .val (.int p1), .val (.int (1 : Int32)), .unset, .unset] [(.int ((p1 &&& (2147483647 : Int32)) % (5 : Int32)))])) (fun _ k => iremM (g := (mkF m 12 #[.val (.int p0), .val (.int p1), .val (.int (1 : Int32)), .unset, .unset] [(.int (5 : Int32)), (.int (p1 &&& (2147483647 : Int32)))])) X0 hx rfl (hb hby at_12) rfl (by decide) k) ?_
    refine own_go (B := s₁.setTop (mkF m 14 #[.val (.int p0), .val (.int p1), .val (.int (1 : Int32)), .val (.int ((p1 &&& (2147483647 : Int32)) % (5 : Int32))), .unset] [])) (fun _ k => XS.istoreN X0.here hx rfl (hb hby at_13) rfl (l' := #[.val (.int p0), .val (.int p1), .val (.int (1 : Int32)), .val (.int ((p1 &&& (2147483647 : Int32)) % (5 : Int32))), .unset]) rfl k) ?_
    obtain ⟨ip1, hip1⟩ : ∃ z : Int32, ((p1 &&& (2147483647 : Int32)) % (5 : Int32)) = z := ⟨_, rfl⟩
    rw [hip1]
    have hcs := own_c5 p1
    rw [hip1] at hcs
    rcases hcs with rfl | rfl | rfl | rfl | rfl
    · refine own_go (B := s₁.setTop (mkF m 15 #[.val (.int p0), .val (.int p1), .val (.int (1 : Int32)), .val (.int (0 : Int32)), .unset] [(.int (1 : Int32))])) (fun _ k => XS.iloadN X0.here hx rfl (hb hby at_14) rfl k) ?_
      obtain ⟨_, _, ⟨T26, L26, k26, n26⟩, -, X26, ⟨Lc26, hQ26, l26, y26, z26⟩, st26⟩ := Jvm.LawKit.callS X0 hx (y := (⟨"com/example/oblate/oblate/FrameNeedsReferencePinLaw", "isLocalByDoc", "(I)Z"⟩ : MethodName)) hown (mvT hZ (hw _ (List.mem_of_getElem? (i := 1) rfl))) (mvT hZ (hw _ (List.mem_of_getElem? (i := 2) rfl))) (mvT hZ (hw _ (List.mem_of_getElem? (i := 3) rfl))) (mvT hZ (hw _ (List.mem_of_getElem? (i := 4) rfl))) (by decide) (own_back (W := 0) (rm1_1 l Z a0 hw []  A hW h0 x0 ) hZ (hw _ (List.mem_of_getElem? (i := 4) rfl)) (hw _ (List.mem_of_getElem? (i := 3) rfl)) (by decide) (by decide)) (g := (mkF m 15 #[.val (.int p0), .val (.int p1), .val (.int (1 : Int32)), .val (.int (0 : Int32)), .unset] [(.int (1 : Int32))])) rfl (by rw [hml]; rfl) (argsL := [(.int (1 : Int32))]) (rest := []) (lenOf pd_0 rfl) rfl (by show 2 * 0 + _ ≤ _; exact Nat.le_of_eq rfl) (hb hby at_15) (fun _ _ => ⟨rfl, e0, (by decide : 0 + 0 ≤ _), (by decide : 0 + 0 ≤ _)⟩)
      dsimp only [Pt.U, Pt.locs, Pt.cells, Pt.slots] at X26 l26 y26 z26 st26 hQ26
      subst l26 y26 z26
      obtain ⟨rfl, N26q, e26⟩ := hQ26
      have N26 := Fr.app N0 N26q
      refine own_go (B := T26.setTop (mkF m 18 #[.val (.int p0), .val (.int p1), .val (.int (1 : Int32)), .val (.int (0 : Int32)), .unset] [(.int (0 : Int32))])) st26 ?_
      refine own_go (B := T26.setTop (mkF m 21 #[.val (.int p0), .val (.int p1), .val (.int (1 : Int32)), .val (.int (0 : Int32)), .unset] [])) (fun _ k => XS.ifNo X26.here hx rfl (hb hby at_18) rfl (by decide) k) ?_
      refine own_go (B := T26.setTop (mkF m 22 #[.val (.int p0), .val (.int p1), .val (.int (1 : Int32)), .val (.int (0 : Int32)), .unset] [(.int (0 : Int32))])) (fun _ k => XS.iloadN X26.here hx rfl (hb hby at_21) rfl k) ?_
      obtain ⟨_, _, ⟨T27, L27, k27, n27⟩, -, X27, ⟨Lc27, hQ27, l27, y27, z27⟩, st27⟩ := Jvm.LawKit.callS X26 hx (y := (⟨"com/example/oblate/oblate/FrameNeedsReferencePinLaw", "isLocalByDoc", "(I)Z"⟩ : MethodName)) hown (mvT hZ (hw _ (List.mem_of_getElem? (i := 1) rfl))) (mvT hZ (hw _ (List.mem_of_getElem? (i := 2) rfl))) (mvT hZ (hw _ (List.mem_of_getElem? (i := 3) rfl))) (mvT hZ (hw _ (List.mem_of_getElem? (i := 4) rfl))) (by decide) (own_back (W := 0) (rm1_0 l Z a0 hw []  A hW h0 x0 ) hZ (hw _ (List.mem_of_getElem? (i := 4) rfl)) (hw _ (List.mem_of_getElem? (i := 3) rfl)) (by decide) (by decide)) (g := (mkF m 22 #[.val (.int p0), .val (.int p1), .val (.int (1 : Int32)), .val (.int (0 : Int32)), .unset] [(.int (0 : Int32))])) rfl (by rw [hml]; rfl) (argsL := [(.int (0 : Int32))]) (rest := []) (lenOf pd_0 rfl) rfl (by show 2 * 0 + _ ≤ _; exact Nat.le_of_eq rfl) (hb hby at_22) (fun _ _ => ⟨rfl, e26, (by decide : 0 + 0 ≤ _), (by decide : 0 + 0 ≤ _)⟩)
      dsimp only [Pt.U, Pt.locs, Pt.cells, Pt.slots] at X27 l27 y27 z27 st27 hQ27
      subst l27 y27 z27
      obtain ⟨rfl, N27q, e27⟩ := hQ27
      have N27 := Fr.app N26 N27q
      refine own_go (B := T27.setTop (mkF m 25 #[.val (.int p0), .val (.int p1), .val (.int (1 : Int32)), .val (.int (0 : Int32)), .unset] [(.int (0 : Int32))])) st27 ?_
      refine own_go (B := T27.setTop (mkF m 32 #[.val (.int p0), .val (.int p1), .val (.int (1 : Int32)), .val (.int (0 : Int32)), .unset] [])) (fun _ k => XS.ifYes X27.here hx rfl (pc0 := 25) (pc' := 32) rfl (hb hby at_25) rfl (by decide) (by decide) (by decide) k) ?_
      refine own_go (B := T27.setTop (mkF m 33 #[.val (.int p0), .val (.int p1), .val (.int (1 : Int32)), .val (.int (0 : Int32)), .unset] [(.int (0 : Int32))])) (fun _ k => XT.iconstV X27.here hx rfl (0 : Int32) (hb hby at_32) rfl k) ?_
      refine own_go (B := T27.setTop (mkF m 35 #[.val (.int p0), .val (.int p1), .val (.int (1 : Int32)), .val (.int (0 : Int32)), .val (.int (0 : Int32))] [])) (fun _ k => XS.istore X27.here hx rfl (hb hby at_33) rfl (l' := #[.val (.int p0), .val (.int p1), .val (.int (1 : Int32)), .val (.int (0 : Int32)), .val (.int (0 : Int32))]) rfl k) ?_
      refine own_go (B := T27.setTop (mkF m 36 #[.val (.int p0), .val (.int p1), .val (.int (1 : Int32)), .val (.int (0 : Int32)), .val (.int (0 : Int32))] [(.int (1 : Int32))])) (fun _ k => XS.iloadN X27.here hx rfl (hb hby at_35) rfl k) ?_
      obtain ⟨_, _, ⟨T28, L28, k28, n28⟩, -, X28, ⟨Lc28, hQ28, l28, y28, z28⟩, st28⟩ := Jvm.LawKit.callS X27 hx (y := (⟨"com/example/oblate/oblate/FrameNeedsReferencePinLaw", "pick", "(I)Lcom/example/oblate/oblate/Frame;"⟩ : MethodName)) hown (mvT hZ (hw _ (List.mem_of_getElem? (i := 5) rfl))) (mvT hZ (hw _ (List.mem_of_getElem? (i := 6) rfl))) (mvT hZ (hw _ (List.mem_of_getElem? (i := 3) rfl))) (mvT hZ (hw _ (List.mem_of_getElem? (i := 7) rfl))) (by decide) (own_back (W := 0) (rm2_1 l Z a0 hw []  A hW h0 x0 ) hZ (hw _ (List.mem_of_getElem? (i := 7) rfl)) (hw _ (List.mem_of_getElem? (i := 3) rfl)) (by decide) (by decide)) (g := (mkF m 36 #[.val (.int p0), .val (.int p1), .val (.int (1 : Int32)), .val (.int (0 : Int32)), .val (.int (0 : Int32))] [(.int (1 : Int32))])) rfl (by rw [hml]; rfl) (argsL := [(.int (1 : Int32))]) (rest := []) (lenOf pd_1 rfl) rfl (by show 2 * 0 + _ ≤ _; exact Nat.le_of_eq rfl) (hb hby at_36) (fun _ _ => ⟨rfl, e27, (by decide : 0 + 0 ≤ _), (by decide : 0 + 0 ≤ _)⟩)
      dsimp only [Pt.U, Pt.locs, Pt.cells, Pt.slots] at X28 l28 y28 z28 st28 hQ28
      subst l28 y28 z28
      obtain ⟨rfl, N28q, e28⟩ := hQ28
      have N28 := Fr.app N27 N28q
      refine own_go (B := T28.setTop (mkF m 39 #[.val (.int p0), .val (.int p1), .val (.int (1 : Int32)), .val (.int (0 : Int32)), .val (.int (0 : Int32))] [(.ref (A 3))])) st28 ?_
      refine own_go (B := T28.setTop (mkF m 40 #[.val (.int p0), .val (.int p1), .val (.int (1 : Int32)), .val (.int (0 : Int32)), .val (.int (0 : Int32))] [(.int (0 : Int32)), (.ref (A 3))])) (fun _ k => XS.iloadN X28.here hx rfl (hb hby at_39) rfl k) ?_
      obtain ⟨_, _, ⟨T29, L29, k29, n29⟩, -, X29, ⟨Lc29, hQ29, l29, y29, z29⟩, st29⟩ := Jvm.LawKit.callS X28 hx (y := (⟨"com/example/oblate/oblate/FrameNeedsReferencePinLaw", "pick", "(I)Lcom/example/oblate/oblate/Frame;"⟩ : MethodName)) hown (mvT hZ (hw _ (List.mem_of_getElem? (i := 5) rfl))) (mvT hZ (hw _ (List.mem_of_getElem? (i := 6) rfl))) (mvT hZ (hw _ (List.mem_of_getElem? (i := 3) rfl))) (mvT hZ (hw _ (List.mem_of_getElem? (i := 7) rfl))) (by decide) (own_back (W := 1) (rm2_0 l Z a0 hw []  A hW h0 x0 ) hZ (hw _ (List.mem_of_getElem? (i := 7) rfl)) (hw _ (List.mem_of_getElem? (i := 3) rfl)) (by decide) (by decide)) (g := (mkF m 40 #[.val (.int p0), .val (.int p1), .val (.int (1 : Int32)), .val (.int (0 : Int32)), .val (.int (0 : Int32))] [(.int (0 : Int32)), (.ref (A 3))])) rfl (by rw [hml]; rfl) (argsL := [(.int (0 : Int32))]) (rest := [(.ref (A 3))]) (lenOf pd_1 rfl) rfl (by show 2 * 0 + _ ≤ _; exact Nat.le_of_eq rfl) (hb hby at_40) (fun _ _ => ⟨rfl, e28, (by decide : 0 + 0 ≤ _), (by decide : 0 + 0 ≤ _)⟩)
      dsimp only [Pt.U, Pt.locs, Pt.cells, Pt.slots] at X29 l29 y29 z29 st29 hQ29
      subst l29 y29 z29
      obtain ⟨rfl, N29q, e29⟩ := hQ29
      have N29 := Fr.app N28 N29q
      refine own_go (B := T29.setTop (mkF m 43 #[.val (.int p0), .val (.int p1), .val (.int (1 : Int32)), .val (.int (0 : Int32)), .val (.int (0 : Int32))] [(.ref (A 0)), (.ref (A 3))])) st29 ?_
      obtain ⟨cq30, kq30, q30a, q30b, q30c⟩ := isOf hZ e29 (E_ECEF.ext x0)
      obtain ⟨_, _, ⟨T30, L30, k30, n30⟩, -, X30, ⟨Lc30, hQ30, l30, y30, z30⟩, st30⟩ := X29.virtualBack hx (y := (⟨"com/example/oblate/oblate/Frame", "needsReference", "(Lcom/example/oblate/oblate/Frame;)Z"⟩ : MethodName)) (z := (⟨"com/example/oblate/oblate/Frame", "needsReference", "(Lcom/example/oblate/oblate/Frame;)Z"⟩ : MethodName)) hown (mvT hZ (hw _ (List.mem_of_getElem? (i := 13) rfl))) (mvT hZ (hw _ (List.mem_of_getElem? (i := 14) rfl))) (notFace_of_selects (args := #[]) (mvT hZ (hw _ (List.mem_of_getElem? (i := 28) rfl)))) (mvT hZ (hw _ (List.mem_of_getElem? (i := 28) rfl))) (mvT hZ (hw _ (List.mem_of_getElem? (i := 15) rfl))) (by decide) (own_back (W := 0) (rm3_5 l Z a0 hw []  A hW h0 x0 ) hZ (hw _ (List.mem_of_getElem? (i := 17) rfl)) (hw _ (List.mem_of_getElem? (i := 9) rfl)) (by decide) (by decide)) q30a q30c (g := (mkF m 43 #[.val (.int p0), .val (.int p1), .val (.int (1 : Int32)), .val (.int (0 : Int32)), .val (.int (0 : Int32))] [(.ref (A 0)), (.ref (A 3))])) rfl (by rw [hml]; rfl) (Steps.refl _) (argsL := [(.ref (A 0))]) (rest := []) (lenOf pd_2 rfl) rfl (by show 2 * 0 + _ ≤ _; exact Nat.le_of_eq rfl) (hb hby at_43) (fun _ _ => ⟨rfl, e29, (by decide : 0 + 0 ≤ _), (by decide : 0 + 0 ≤ _)⟩)
      dsimp only [Pt.U, Pt.locs, Pt.cells, Pt.slots] at X30 l30 y30 z30 st30 hQ30
      subst l30 y30 z30
      obtain ⟨rfl, N30q, e30⟩ := hQ30
      have N30 := Fr.app N29 N30q
      refine own_go (B := T30.setTop (mkF m 46 #[.val (.int p0), .val (.int p1), .val (.int (1 : Int32)), .val (.int (0 : Int32)), .val (.int (0 : Int32))] [(.int (0 : Int32))])) (fun _ k => st30.trans k) ?_
      refine own_go (B := T30.setTop (mkF m 48 #[.val (.int p0), .val (.int p1), .val (.int (1 : Int32)), .val (.int (0 : Int32)), .val (.int (0 : Int32))] [(.int (0 : Int32)), (.int (0 : Int32))])) (fun _ k => XS.iload X30.here hx rfl (hb hby at_46) rfl k) ?_
      refine own_go (B := T30.setTop (mkF m 51 #[.val (.int p0), .val (.int p1), .val (.int (1 : Int32)), .val (.int (0 : Int32)), .val (.int (0 : Int32))] [])) (fun _ k => XS.icmpNo X30.here hx rfl (hb hby at_48) rfl (by decide) k) ?_
      refine own_go (B := T30.setTop (mkF m 52 #[.val (.int p0), .val (.int p1), .val (.int (1 : Int32)), .val (.int (0 : Int32)), .val (.int (0 : Int32))] [(.int (1 : Int32))])) (fun _ k => XT.iconstV X30.here hx rfl (1 : Int32) (hb hby at_51) rfl k) ?_
      refine own_go (B := T30.setTop (mkF m 56 #[.val (.int p0), .val (.int p1), .val (.int (1 : Int32)), .val (.int (0 : Int32)), .val (.int (0 : Int32))] [(.int (1 : Int32))])) (fun _ k => XS.goto X30.here hx rfl (pc0 := 52) (pc' := 56) rfl (hb hby at_52) (by decide) (by decide) k) ?_
      exact own_ret X30 hx (t := .boolean) hrt rfl (Or.inl ⟨rfl, by simp, _, rfl⟩) (hb hby at_56) hlk ⟨rfl, N30⟩ (by decide) (by decide)
    · refine own_go (B := s₁.setTop (mkF m 15 #[.val (.int p0), .val (.int p1), .val (.int (1 : Int32)), .val (.int (1 : Int32)), .unset] [(.int (1 : Int32))])) (fun _ k => XS.iloadN X0.here hx rfl (hb hby at_14) rfl k) ?_
      obtain ⟨_, _, ⟨T31, L31, k31, n31⟩, -, X31, ⟨Lc31, hQ31, l31, y31, z31⟩, st31⟩ := Jvm.LawKit.callS X0 hx (y := (⟨"com/example/oblate/oblate/FrameNeedsReferencePinLaw", "isLocalByDoc", "(I)Z"⟩ : MethodName)) hown (mvT hZ (hw _ (List.mem_of_getElem? (i := 1) rfl))) (mvT hZ (hw _ (List.mem_of_getElem? (i := 2) rfl))) (mvT hZ (hw _ (List.mem_of_getElem? (i := 3) rfl))) (mvT hZ (hw _ (List.mem_of_getElem? (i := 4) rfl))) (by decide) (own_back (W := 0) (rm1_1 l Z a0 hw []  A hW h0 x0 ) hZ (hw _ (List.mem_of_getElem? (i := 4) rfl)) (hw _ (List.mem_of_getElem? (i := 3) rfl)) (by decide) (by decide)) (g := (mkF m 15 #[.val (.int p0), .val (.int p1), .val (.int (1 : Int32)), .val (.int (1 : Int32)), .unset] [(.int (1 : Int32))])) rfl (by rw [hml]; rfl) (argsL := [(.int (1 : Int32))]) (rest := []) (lenOf pd_0 rfl) rfl (by show 2 * 0 + _ ≤ _; exact Nat.le_of_eq rfl) (hb hby at_15) (fun _ _ => ⟨rfl, e0, (by decide : 0 + 0 ≤ _), (by decide : 0 + 0 ≤ _)⟩)
      dsimp only [Pt.U, Pt.locs, Pt.cells, Pt.slots] at X31 l31 y31 z31 st31 hQ31
      subst l31 y31 z31
      obtain ⟨rfl, N31q, e31⟩ := hQ31
      have N31 := Fr.app N0 N31q
      refine own_go (B := T31.setTop (mkF m 18 #[.val (.int p0), .val (.int p1), .val (.int (1 : Int32)), .val (.int (1 : Int32)), .unset] [(.int (0 : Int32))])) st31 ?_
      refine own_go (B := T31.setTop (mkF m 21 #[.val (.int p0), .val (.int p1), .val (.int (1 : Int32)), .val (.int (1 : Int32)), .unset] [])) (fun _ k => XS.ifNo X31.here hx rfl (hb hby at_18) rfl (by decide) k) ?_
      refine own_go (B := T31.setTop (mkF m 22 #[.val (.int p0), .val (.int p1), .val (.int (1 : Int32)), .val (.int (1 : Int32)), .unset] [(.int (1 : Int32))])) (fun _ k => XS.iloadN X31.here hx rfl (hb hby at_21) rfl k) ?_
      obtain ⟨_, _, ⟨T32, L32, k32, n32⟩, -, X32, ⟨Lc32, hQ32, l32, y32, z32⟩, st32⟩ := Jvm.LawKit.callS X31 hx (y := (⟨"com/example/oblate/oblate/FrameNeedsReferencePinLaw", "isLocalByDoc", "(I)Z"⟩ : MethodName)) hown (mvT hZ (hw _ (List.mem_of_getElem? (i := 1) rfl))) (mvT hZ (hw _ (List.mem_of_getElem? (i := 2) rfl))) (mvT hZ (hw _ (List.mem_of_getElem? (i := 3) rfl))) (mvT hZ (hw _ (List.mem_of_getElem? (i := 4) rfl))) (by decide) (own_back (W := 0) (rm1_1 l Z a0 hw []  A hW h0 x0 ) hZ (hw _ (List.mem_of_getElem? (i := 4) rfl)) (hw _ (List.mem_of_getElem? (i := 3) rfl)) (by decide) (by decide)) (g := (mkF m 22 #[.val (.int p0), .val (.int p1), .val (.int (1 : Int32)), .val (.int (1 : Int32)), .unset] [(.int (1 : Int32))])) rfl (by rw [hml]; rfl) (argsL := [(.int (1 : Int32))]) (rest := []) (lenOf pd_0 rfl) rfl (by show 2 * 0 + _ ≤ _; exact Nat.le_of_eq rfl) (hb hby at_22) (fun _ _ => ⟨rfl, e31, (by decide : 0 + 0 ≤ _), (by decide : 0 + 0 ≤ _)⟩)
      dsimp only [Pt.U, Pt.locs, Pt.cells, Pt.slots] at X32 l32 y32 z32 st32 hQ32
      subst l32 y32 z32
      obtain ⟨rfl, N32q, e32⟩ := hQ32
      have N32 := Fr.app N31 N32q
      refine own_go (B := T32.setTop (mkF m 25 #[.val (.int p0), .val (.int p1), .val (.int (1 : Int32)), .val (.int (1 : Int32)), .unset] [(.int (0 : Int32))])) st32 ?_
      refine own_go (B := T32.setTop (mkF m 32 #[.val (.int p0), .val (.int p1), .val (.int (1 : Int32)), .val (.int (1 : Int32)), .unset] [])) (fun _ k => XS.ifYes X32.here hx rfl (pc0 := 25) (pc' := 32) rfl (hb hby at_25) rfl (by decide) (by decide) (by decide) k) ?_
      refine own_go (B := T32.setTop (mkF m 33 #[.val (.int p0), .val (.int p1), .val (.int (1 : Int32)), .val (.int (1 : Int32)), .unset] [(.int (0 : Int32))])) (fun _ k => XT.iconstV X32.here hx rfl (0 : Int32) (hb hby at_32) rfl k) ?_
      refine own_go (B := T32.setTop (mkF m 35 #[.val (.int p0), .val (.int p1), .val (.int (1 : Int32)), .val (.int (1 : Int32)), .val (.int (0 : Int32))] [])) (fun _ k => XS.istore X32.here hx rfl (hb hby at_33) rfl (l' := #[.val (.int p0), .val (.int p1), .val (.int (1 : Int32)), .val (.int (1 : Int32)), .val (.int (0 : Int32))]) rfl k) ?_
      refine own_go (B := T32.setTop (mkF m 36 #[.val (.int p0), .val (.int p1), .val (.int (1 : Int32)), .val (.int (1 : Int32)), .val (.int (0 : Int32))] [(.int (1 : Int32))])) (fun _ k => XS.iloadN X32.here hx rfl (hb hby at_35) rfl k) ?_
      obtain ⟨_, _, ⟨T33, L33, k33, n33⟩, -, X33, ⟨Lc33, hQ33, l33, y33, z33⟩, st33⟩ := Jvm.LawKit.callS X32 hx (y := (⟨"com/example/oblate/oblate/FrameNeedsReferencePinLaw", "pick", "(I)Lcom/example/oblate/oblate/Frame;"⟩ : MethodName)) hown (mvT hZ (hw _ (List.mem_of_getElem? (i := 5) rfl))) (mvT hZ (hw _ (List.mem_of_getElem? (i := 6) rfl))) (mvT hZ (hw _ (List.mem_of_getElem? (i := 3) rfl))) (mvT hZ (hw _ (List.mem_of_getElem? (i := 7) rfl))) (by decide) (own_back (W := 0) (rm2_1 l Z a0 hw []  A hW h0 x0 ) hZ (hw _ (List.mem_of_getElem? (i := 7) rfl)) (hw _ (List.mem_of_getElem? (i := 3) rfl)) (by decide) (by decide)) (g := (mkF m 36 #[.val (.int p0), .val (.int p1), .val (.int (1 : Int32)), .val (.int (1 : Int32)), .val (.int (0 : Int32))] [(.int (1 : Int32))])) rfl (by rw [hml]; rfl) (argsL := [(.int (1 : Int32))]) (rest := []) (lenOf pd_1 rfl) rfl (by show 2 * 0 + _ ≤ _; exact Nat.le_of_eq rfl) (hb hby at_36) (fun _ _ => ⟨rfl, e32, (by decide : 0 + 0 ≤ _), (by decide : 0 + 0 ≤ _)⟩)
      dsimp only [Pt.U, Pt.locs, Pt.cells, Pt.slots] at X33 l33 y33 z33 st33 hQ33
      subst l33 y33 z33
      obtain ⟨rfl, N33q, e33⟩ := hQ33
      have N33 := Fr.app N32 N33q
      refine own_go (B := T33.setTop (mkF m 39 #[.val (.int p0), .val (.int p1), .val (.int (1 : Int32)), .val (.int (1 : Int32)), .val (.int (0 : Int32))] [(.ref (A 3))])) st33 ?_
      refine own_go (B := T33.setTop (mkF m 40 #[.val (.int p0), .val (.int p1), .val (.int (1 : Int32)), .val (.int (1 : Int32)), .val (.int (0 : Int32))] [(.int (1 : Int32)), (.ref (A 3))])) (fun _ k => XS.iloadN X33.here hx rfl (hb hby at_39) rfl k) ?_
      obtain ⟨_, _, ⟨T34, L34, k34, n34⟩, -, X34, ⟨Lc34, hQ34, l34, y34, z34⟩, st34⟩ := Jvm.LawKit.callS X33 hx (y := (⟨"com/example/oblate/oblate/FrameNeedsReferencePinLaw", "pick", "(I)Lcom/example/oblate/oblate/Frame;"⟩ : MethodName)) hown (mvT hZ (hw _ (List.mem_of_getElem? (i := 5) rfl))) (mvT hZ (hw _ (List.mem_of_getElem? (i := 6) rfl))) (mvT hZ (hw _ (List.mem_of_getElem? (i := 3) rfl))) (mvT hZ (hw _ (List.mem_of_getElem? (i := 7) rfl))) (by decide) (own_back (W := 1) (rm2_1 l Z a0 hw []  A hW h0 x0 ) hZ (hw _ (List.mem_of_getElem? (i := 7) rfl)) (hw _ (List.mem_of_getElem? (i := 3) rfl)) (by decide) (by decide)) (g := (mkF m 40 #[.val (.int p0), .val (.int p1), .val (.int (1 : Int32)), .val (.int (1 : Int32)), .val (.int (0 : Int32))] [(.int (1 : Int32)), (.ref (A 3))])) rfl (by rw [hml]; rfl) (argsL := [(.int (1 : Int32))]) (rest := [(.ref (A 3))]) (lenOf pd_1 rfl) rfl (by show 2 * 0 + _ ≤ _; exact Nat.le_of_eq rfl) (hb hby at_40) (fun _ _ => ⟨rfl, e33, (by decide : 0 + 0 ≤ _), (by decide : 0 + 0 ≤ _)⟩)
      dsimp only [Pt.U, Pt.locs, Pt.cells, Pt.slots] at X34 l34 y34 z34 st34 hQ34
      subst l34 y34 z34
      obtain ⟨rfl, N34q, e34⟩ := hQ34
      have N34 := Fr.app N33 N34q
      refine own_go (B := T34.setTop (mkF m 43 #[.val (.int p0), .val (.int p1), .val (.int (1 : Int32)), .val (.int (1 : Int32)), .val (.int (0 : Int32))] [(.ref (A 3)), (.ref (A 3))])) st34 ?_
      obtain ⟨cq35, kq35, q35a, q35b, q35c⟩ := isOf hZ e34 (E_ECEF.ext x0)
      obtain ⟨_, _, ⟨T35, L35, k35, n35⟩, -, X35, ⟨Lc35, hQ35, l35, y35, z35⟩, st35⟩ := X34.virtualBack hx (y := (⟨"com/example/oblate/oblate/Frame", "needsReference", "(Lcom/example/oblate/oblate/Frame;)Z"⟩ : MethodName)) (z := (⟨"com/example/oblate/oblate/Frame", "needsReference", "(Lcom/example/oblate/oblate/Frame;)Z"⟩ : MethodName)) hown (mvT hZ (hw _ (List.mem_of_getElem? (i := 13) rfl))) (mvT hZ (hw _ (List.mem_of_getElem? (i := 14) rfl))) (notFace_of_selects (args := #[]) (mvT hZ (hw _ (List.mem_of_getElem? (i := 28) rfl)))) (mvT hZ (hw _ (List.mem_of_getElem? (i := 28) rfl))) (mvT hZ (hw _ (List.mem_of_getElem? (i := 15) rfl))) (by decide) (own_back (W := 0) (rm3_6 l Z a0 hw []  A hW h0 x0 ) hZ (hw _ (List.mem_of_getElem? (i := 17) rfl)) (hw _ (List.mem_of_getElem? (i := 9) rfl)) (by decide) (by decide)) q35a q35c (g := (mkF m 43 #[.val (.int p0), .val (.int p1), .val (.int (1 : Int32)), .val (.int (1 : Int32)), .val (.int (0 : Int32))] [(.ref (A 3)), (.ref (A 3))])) rfl (by rw [hml]; rfl) (Steps.refl _) (argsL := [(.ref (A 3))]) (rest := []) (lenOf pd_2 rfl) rfl (by show 2 * 0 + _ ≤ _; exact Nat.le_of_eq rfl) (hb hby at_43) (fun _ _ => ⟨rfl, e34, (by decide : 0 + 0 ≤ _), (by decide : 0 + 0 ≤ _)⟩)
      dsimp only [Pt.U, Pt.locs, Pt.cells, Pt.slots] at X35 l35 y35 z35 st35 hQ35
      subst l35 y35 z35
      obtain ⟨rfl, N35q, e35⟩ := hQ35
      have N35 := Fr.app N34 N35q
      refine own_go (B := T35.setTop (mkF m 46 #[.val (.int p0), .val (.int p1), .val (.int (1 : Int32)), .val (.int (1 : Int32)), .val (.int (0 : Int32))] [(.int (0 : Int32))])) (fun _ k => st35.trans k) ?_
      refine own_go (B := T35.setTop (mkF m 48 #[.val (.int p0), .val (.int p1), .val (.int (1 : Int32)), .val (.int (1 : Int32)), .val (.int (0 : Int32))] [(.int (0 : Int32)), (.int (0 : Int32))])) (fun _ k => XS.iload X35.here hx rfl (hb hby at_46) rfl k) ?_
      refine own_go (B := T35.setTop (mkF m 51 #[.val (.int p0), .val (.int p1), .val (.int (1 : Int32)), .val (.int (1 : Int32)), .val (.int (0 : Int32))] [])) (fun _ k => XS.icmpNo X35.here hx rfl (hb hby at_48) rfl (by decide) k) ?_
      refine own_go (B := T35.setTop (mkF m 52 #[.val (.int p0), .val (.int p1), .val (.int (1 : Int32)), .val (.int (1 : Int32)), .val (.int (0 : Int32))] [(.int (1 : Int32))])) (fun _ k => XT.iconstV X35.here hx rfl (1 : Int32) (hb hby at_51) rfl k) ?_
      refine own_go (B := T35.setTop (mkF m 56 #[.val (.int p0), .val (.int p1), .val (.int (1 : Int32)), .val (.int (1 : Int32)), .val (.int (0 : Int32))] [(.int (1 : Int32))])) (fun _ k => XS.goto X35.here hx rfl (pc0 := 52) (pc' := 56) rfl (hb hby at_52) (by decide) (by decide) k) ?_
      exact own_ret X35 hx (t := .boolean) hrt rfl (Or.inl ⟨rfl, by simp, _, rfl⟩) (hb hby at_56) hlk ⟨rfl, N35⟩ (by decide) (by decide)
    · refine own_go (B := s₁.setTop (mkF m 15 #[.val (.int p0), .val (.int p1), .val (.int (1 : Int32)), .val (.int (2 : Int32)), .unset] [(.int (1 : Int32))])) (fun _ k => XS.iloadN X0.here hx rfl (hb hby at_14) rfl k) ?_
      obtain ⟨_, _, ⟨T36, L36, k36, n36⟩, -, X36, ⟨Lc36, hQ36, l36, y36, z36⟩, st36⟩ := Jvm.LawKit.callS X0 hx (y := (⟨"com/example/oblate/oblate/FrameNeedsReferencePinLaw", "isLocalByDoc", "(I)Z"⟩ : MethodName)) hown (mvT hZ (hw _ (List.mem_of_getElem? (i := 1) rfl))) (mvT hZ (hw _ (List.mem_of_getElem? (i := 2) rfl))) (mvT hZ (hw _ (List.mem_of_getElem? (i := 3) rfl))) (mvT hZ (hw _ (List.mem_of_getElem? (i := 4) rfl))) (by decide) (own_back (W := 0) (rm1_1 l Z a0 hw []  A hW h0 x0 ) hZ (hw _ (List.mem_of_getElem? (i := 4) rfl)) (hw _ (List.mem_of_getElem? (i := 3) rfl)) (by decide) (by decide)) (g := (mkF m 15 #[.val (.int p0), .val (.int p1), .val (.int (1 : Int32)), .val (.int (2 : Int32)), .unset] [(.int (1 : Int32))])) rfl (by rw [hml]; rfl) (argsL := [(.int (1 : Int32))]) (rest := []) (lenOf pd_0 rfl) rfl (by show 2 * 0 + _ ≤ _; exact Nat.le_of_eq rfl) (hb hby at_15) (fun _ _ => ⟨rfl, e0, (by decide : 0 + 0 ≤ _), (by decide : 0 + 0 ≤ _)⟩)
      dsimp only [Pt.U, Pt.locs, Pt.cells, Pt.slots] at X36 l36 y36 z36 st36 hQ36
      subst l36 y36 z36
      obtain ⟨rfl, N36q, e36⟩ := hQ36
      have N36 := Fr.app N0 N36q
      refine own_go (B := T36.setTop (mkF m 18 #[.val (.int p0), .val (.int p1), .val (.int (1 : Int32)), .val (.int (2 : Int32)), .unset] [(.int (0 : Int32))])) st36 ?_
      refine own_go (B := T36.setTop (mkF m 21 #[.val (.int p0), .val (.int p1), .val (.int (1 : Int32)), .val (.int (2 : Int32)), .unset] [])) (fun _ k => XS.ifNo X36.here hx rfl (hb hby at_18) rfl (by decide) k) ?_
      refine own_go (B := T36.setTop (mkF m 22 #[.val (.int p0), .val (.int p1), .val (.int (1 : Int32)), .val (.int (2 : Int32)), .unset] [(.int (2 : Int32))])) (fun _ k => XS.iloadN X36.here hx rfl (hb hby at_21) rfl k) ?_
      obtain ⟨_, _, ⟨T37, L37, k37, n37⟩, -, X37, ⟨Lc37, hQ37, l37, y37, z37⟩, st37⟩ := Jvm.LawKit.callS X36 hx (y := (⟨"com/example/oblate/oblate/FrameNeedsReferencePinLaw", "isLocalByDoc", "(I)Z"⟩ : MethodName)) hown (mvT hZ (hw _ (List.mem_of_getElem? (i := 1) rfl))) (mvT hZ (hw _ (List.mem_of_getElem? (i := 2) rfl))) (mvT hZ (hw _ (List.mem_of_getElem? (i := 3) rfl))) (mvT hZ (hw _ (List.mem_of_getElem? (i := 4) rfl))) (by decide) (own_back (W := 0) (rm1_2 l Z a0 hw []  A hW h0 x0 ) hZ (hw _ (List.mem_of_getElem? (i := 4) rfl)) (hw _ (List.mem_of_getElem? (i := 3) rfl)) (by decide) (by decide)) (g := (mkF m 22 #[.val (.int p0), .val (.int p1), .val (.int (1 : Int32)), .val (.int (2 : Int32)), .unset] [(.int (2 : Int32))])) rfl (by rw [hml]; rfl) (argsL := [(.int (2 : Int32))]) (rest := []) (lenOf pd_0 rfl) rfl (by show 2 * 0 + _ ≤ _; exact Nat.le_of_eq rfl) (hb hby at_22) (fun _ _ => ⟨rfl, e36, (by decide : 0 + 0 ≤ _), (by decide : 0 + 0 ≤ _)⟩)
      dsimp only [Pt.U, Pt.locs, Pt.cells, Pt.slots] at X37 l37 y37 z37 st37 hQ37
      subst l37 y37 z37
      obtain ⟨rfl, N37q, e37⟩ := hQ37
      have N37 := Fr.app N36 N37q
      refine own_go (B := T37.setTop (mkF m 25 #[.val (.int p0), .val (.int p1), .val (.int (1 : Int32)), .val (.int (2 : Int32)), .unset] [(.int (1 : Int32))])) st37 ?_
      refine own_go (B := T37.setTop (mkF m 28 #[.val (.int p0), .val (.int p1), .val (.int (1 : Int32)), .val (.int (2 : Int32)), .unset] [])) (fun _ k => XS.ifNo X37.here hx rfl (hb hby at_25) rfl (by decide) k) ?_
      refine own_go (B := T37.setTop (mkF m 29 #[.val (.int p0), .val (.int p1), .val (.int (1 : Int32)), .val (.int (2 : Int32)), .unset] [(.int (1 : Int32))])) (fun _ k => XT.iconstV X37.here hx rfl (1 : Int32) (hb hby at_28) rfl k) ?_
      refine own_go (B := T37.setTop (mkF m 33 #[.val (.int p0), .val (.int p1), .val (.int (1 : Int32)), .val (.int (2 : Int32)), .unset] [(.int (1 : Int32))])) (fun _ k => XS.goto X37.here hx rfl (pc0 := 29) (pc' := 33) rfl (hb hby at_29) (by decide) (by decide) k) ?_
      refine own_go (B := T37.setTop (mkF m 35 #[.val (.int p0), .val (.int p1), .val (.int (1 : Int32)), .val (.int (2 : Int32)), .val (.int (1 : Int32))] [])) (fun _ k => XS.istore X37.here hx rfl (hb hby at_33) rfl (l' := #[.val (.int p0), .val (.int p1), .val (.int (1 : Int32)), .val (.int (2 : Int32)), .val (.int (1 : Int32))]) rfl k) ?_
      refine own_go (B := T37.setTop (mkF m 36 #[.val (.int p0), .val (.int p1), .val (.int (1 : Int32)), .val (.int (2 : Int32)), .val (.int (1 : Int32))] [(.int (1 : Int32))])) (fun _ k => XS.iloadN X37.here hx rfl (hb hby at_35) rfl k) ?_
      obtain ⟨_, _, ⟨T38, L38, k38, n38⟩, -, X38, ⟨Lc38, hQ38, l38, y38, z38⟩, st38⟩ := Jvm.LawKit.callS X37 hx (y := (⟨"com/example/oblate/oblate/FrameNeedsReferencePinLaw", "pick", "(I)Lcom/example/oblate/oblate/Frame;"⟩ : MethodName)) hown (mvT hZ (hw _ (List.mem_of_getElem? (i := 5) rfl))) (mvT hZ (hw _ (List.mem_of_getElem? (i := 6) rfl))) (mvT hZ (hw _ (List.mem_of_getElem? (i := 3) rfl))) (mvT hZ (hw _ (List.mem_of_getElem? (i := 7) rfl))) (by decide) (own_back (W := 0) (rm2_1 l Z a0 hw []  A hW h0 x0 ) hZ (hw _ (List.mem_of_getElem? (i := 7) rfl)) (hw _ (List.mem_of_getElem? (i := 3) rfl)) (by decide) (by decide)) (g := (mkF m 36 #[.val (.int p0), .val (.int p1), .val (.int (1 : Int32)), .val (.int (2 : Int32)), .val (.int (1 : Int32))] [(.int (1 : Int32))])) rfl (by rw [hml]; rfl) (argsL := [(.int (1 : Int32))]) (rest := []) (lenOf pd_1 rfl) rfl (by show 2 * 0 + _ ≤ _; exact Nat.le_of_eq rfl) (hb hby at_36) (fun _ _ => ⟨rfl, e37, (by decide : 0 + 0 ≤ _), (by decide : 0 + 0 ≤ _)⟩)
      dsimp only [Pt.U, Pt.locs, Pt.cells, Pt.slots] at X38 l38 y38 z38 st38 hQ38
      subst l38 y38 z38
      obtain ⟨rfl, N38q, e38⟩ := hQ38
      have N38 := Fr.app N37 N38q
      refine own_go (B := T38.setTop (mkF m 39 #[.val (.int p0), .val (.int p1), .val (.int (1 : Int32)), .val (.int (2 : Int32)), .val (.int (1 : Int32))] [(.ref (A 3))])) st38 ?_
      refine own_go (B := T38.setTop (mkF m 40 #[.val (.int p0), .val (.int p1), .val (.int (1 : Int32)), .val (.int (2 : Int32)), .val (.int (1 : Int32))] [(.int (2 : Int32)), (.ref (A 3))])) (fun _ k => XS.iloadN X38.here hx rfl (hb hby at_39) rfl k) ?_
      obtain ⟨_, _, ⟨T39, L39, k39, n39⟩, -, X39, ⟨Lc39, hQ39, l39, y39, z39⟩, st39⟩ := Jvm.LawKit.callS X38 hx (y := (⟨"com/example/oblate/oblate/FrameNeedsReferencePinLaw", "pick", "(I)Lcom/example/oblate/oblate/Frame;"⟩ : MethodName)) hown (mvT hZ (hw _ (List.mem_of_getElem? (i := 5) rfl))) (mvT hZ (hw _ (List.mem_of_getElem? (i := 6) rfl))) (mvT hZ (hw _ (List.mem_of_getElem? (i := 3) rfl))) (mvT hZ (hw _ (List.mem_of_getElem? (i := 7) rfl))) (by decide) (own_back (W := 1) (rm2_2 l Z a0 hw []  A hW h0 x0 ) hZ (hw _ (List.mem_of_getElem? (i := 7) rfl)) (hw _ (List.mem_of_getElem? (i := 3) rfl)) (by decide) (by decide)) (g := (mkF m 40 #[.val (.int p0), .val (.int p1), .val (.int (1 : Int32)), .val (.int (2 : Int32)), .val (.int (1 : Int32))] [(.int (2 : Int32)), (.ref (A 3))])) rfl (by rw [hml]; rfl) (argsL := [(.int (2 : Int32))]) (rest := [(.ref (A 3))]) (lenOf pd_1 rfl) rfl (by show 2 * 0 + _ ≤ _; exact Nat.le_of_eq rfl) (hb hby at_40) (fun _ _ => ⟨rfl, e38, (by decide : 0 + 0 ≤ _), (by decide : 0 + 0 ≤ _)⟩)
      dsimp only [Pt.U, Pt.locs, Pt.cells, Pt.slots] at X39 l39 y39 z39 st39 hQ39
      subst l39 y39 z39
      obtain ⟨rfl, N39q, e39⟩ := hQ39
      have N39 := Fr.app N38 N39q
      refine own_go (B := T39.setTop (mkF m 43 #[.val (.int p0), .val (.int p1), .val (.int (1 : Int32)), .val (.int (2 : Int32)), .val (.int (1 : Int32))] [(.ref (A 4)), (.ref (A 3))])) st39 ?_
      obtain ⟨cq40, kq40, q40a, q40b, q40c⟩ := isOf hZ e39 (E_ECEF.ext x0)
      obtain ⟨_, _, ⟨T40, L40, k40, n40⟩, -, X40, ⟨Lc40, hQ40, l40, y40, z40⟩, st40⟩ := X39.virtualBack hx (y := (⟨"com/example/oblate/oblate/Frame", "needsReference", "(Lcom/example/oblate/oblate/Frame;)Z"⟩ : MethodName)) (z := (⟨"com/example/oblate/oblate/Frame", "needsReference", "(Lcom/example/oblate/oblate/Frame;)Z"⟩ : MethodName)) hown (mvT hZ (hw _ (List.mem_of_getElem? (i := 13) rfl))) (mvT hZ (hw _ (List.mem_of_getElem? (i := 14) rfl))) (notFace_of_selects (args := #[]) (mvT hZ (hw _ (List.mem_of_getElem? (i := 28) rfl)))) (mvT hZ (hw _ (List.mem_of_getElem? (i := 28) rfl))) (mvT hZ (hw _ (List.mem_of_getElem? (i := 15) rfl))) (by decide) (own_back (W := 0) (rm3_7 l Z a0 hw []  A hW h0 x0 ) hZ (hw _ (List.mem_of_getElem? (i := 17) rfl)) (hw _ (List.mem_of_getElem? (i := 9) rfl)) (by decide) (by decide)) q40a q40c (g := (mkF m 43 #[.val (.int p0), .val (.int p1), .val (.int (1 : Int32)), .val (.int (2 : Int32)), .val (.int (1 : Int32))] [(.ref (A 4)), (.ref (A 3))])) rfl (by rw [hml]; rfl) (Steps.refl _) (argsL := [(.ref (A 4))]) (rest := []) (lenOf pd_2 rfl) rfl (by show 2 * 0 + _ ≤ _; exact Nat.le_of_eq rfl) (hb hby at_43) (fun _ _ => ⟨rfl, e39, (by decide : 0 + 0 ≤ _), (by decide : 0 + 0 ≤ _)⟩)
      dsimp only [Pt.U, Pt.locs, Pt.cells, Pt.slots] at X40 l40 y40 z40 st40 hQ40
      subst l40 y40 z40
      obtain ⟨rfl, N40q, e40⟩ := hQ40
      have N40 := Fr.app N39 N40q
      refine own_go (B := T40.setTop (mkF m 46 #[.val (.int p0), .val (.int p1), .val (.int (1 : Int32)), .val (.int (2 : Int32)), .val (.int (1 : Int32))] [(.int (1 : Int32))])) (fun _ k => st40.trans k) ?_
      refine own_go (B := T40.setTop (mkF m 48 #[.val (.int p0), .val (.int p1), .val (.int (1 : Int32)), .val (.int (2 : Int32)), .val (.int (1 : Int32))] [(.int (1 : Int32)), (.int (1 : Int32))])) (fun _ k => XS.iload X40.here hx rfl (hb hby at_46) rfl k) ?_
      refine own_go (B := T40.setTop (mkF m 51 #[.val (.int p0), .val (.int p1), .val (.int (1 : Int32)), .val (.int (2 : Int32)), .val (.int (1 : Int32))] [])) (fun _ k => XS.icmpNo X40.here hx rfl (hb hby at_48) rfl (by decide) k) ?_
      refine own_go (B := T40.setTop (mkF m 52 #[.val (.int p0), .val (.int p1), .val (.int (1 : Int32)), .val (.int (2 : Int32)), .val (.int (1 : Int32))] [(.int (1 : Int32))])) (fun _ k => XT.iconstV X40.here hx rfl (1 : Int32) (hb hby at_51) rfl k) ?_
      refine own_go (B := T40.setTop (mkF m 56 #[.val (.int p0), .val (.int p1), .val (.int (1 : Int32)), .val (.int (2 : Int32)), .val (.int (1 : Int32))] [(.int (1 : Int32))])) (fun _ k => XS.goto X40.here hx rfl (pc0 := 52) (pc' := 56) rfl (hb hby at_52) (by decide) (by decide) k) ?_
      exact own_ret X40 hx (t := .boolean) hrt rfl (Or.inl ⟨rfl, by simp, _, rfl⟩) (hb hby at_56) hlk ⟨rfl, N40⟩ (by decide) (by decide)
    · refine own_go (B := s₁.setTop (mkF m 15 #[.val (.int p0), .val (.int p1), .val (.int (1 : Int32)), .val (.int (3 : Int32)), .unset] [(.int (1 : Int32))])) (fun _ k => XS.iloadN X0.here hx rfl (hb hby at_14) rfl k) ?_
      obtain ⟨_, _, ⟨T41, L41, k41, n41⟩, -, X41, ⟨Lc41, hQ41, l41, y41, z41⟩, st41⟩ := Jvm.LawKit.callS X0 hx (y := (⟨"com/example/oblate/oblate/FrameNeedsReferencePinLaw", "isLocalByDoc", "(I)Z"⟩ : MethodName)) hown (mvT hZ (hw _ (List.mem_of_getElem? (i := 1) rfl))) (mvT hZ (hw _ (List.mem_of_getElem? (i := 2) rfl))) (mvT hZ (hw _ (List.mem_of_getElem? (i := 3) rfl))) (mvT hZ (hw _ (List.mem_of_getElem? (i := 4) rfl))) (by decide) (own_back (W := 0) (rm1_1 l Z a0 hw []  A hW h0 x0 ) hZ (hw _ (List.mem_of_getElem? (i := 4) rfl)) (hw _ (List.mem_of_getElem? (i := 3) rfl)) (by decide) (by decide)) (g := (mkF m 15 #[.val (.int p0), .val (.int p1), .val (.int (1 : Int32)), .val (.int (3 : Int32)), .unset] [(.int (1 : Int32))])) rfl (by rw [hml]; rfl) (argsL := [(.int (1 : Int32))]) (rest := []) (lenOf pd_0 rfl) rfl (by show 2 * 0 + _ ≤ _; exact Nat.le_of_eq rfl) (hb hby at_15) (fun _ _ => ⟨rfl, e0, (by decide : 0 + 0 ≤ _), (by decide : 0 + 0 ≤ _)⟩)
      dsimp only [Pt.U, Pt.locs, Pt.cells, Pt.slots] at X41 l41 y41 z41 st41 hQ41
      subst l41 y41 z41
      obtain ⟨rfl, N41q, e41⟩ := hQ41
      have N41 := Fr.app N0 N41q
      refine own_go (B := T41.setTop (mkF m 18 #[.val (.int p0), .val (.int p1), .val (.int (1 : Int32)), .val (.int (3 : Int32)), .unset] [(.int (0 : Int32))])) st41 ?_
      refine own_go (B := T41.setTop (mkF m 21 #[.val (.int p0), .val (.int p1), .val (.int (1 : Int32)), .val (.int (3 : Int32)), .unset] [])) (fun _ k => XS.ifNo X41.here hx rfl (hb hby at_18) rfl (by decide) k) ?_
      refine own_go (B := T41.setTop (mkF m 22 #[.val (.int p0), .val (.int p1), .val (.int (1 : Int32)), .val (.int (3 : Int32)), .unset] [(.int (3 : Int32))])) (fun _ k => XS.iloadN X41.here hx rfl (hb hby at_21) rfl k) ?_
      obtain ⟨_, _, ⟨T42, L42, k42, n42⟩, -, X42, ⟨Lc42, hQ42, l42, y42, z42⟩, st42⟩ := Jvm.LawKit.callS X41 hx (y := (⟨"com/example/oblate/oblate/FrameNeedsReferencePinLaw", "isLocalByDoc", "(I)Z"⟩ : MethodName)) hown (mvT hZ (hw _ (List.mem_of_getElem? (i := 1) rfl))) (mvT hZ (hw _ (List.mem_of_getElem? (i := 2) rfl))) (mvT hZ (hw _ (List.mem_of_getElem? (i := 3) rfl))) (mvT hZ (hw _ (List.mem_of_getElem? (i := 4) rfl))) (by decide) (own_back (W := 0) (rm1_3 l Z a0 hw []  A hW h0 x0 ) hZ (hw _ (List.mem_of_getElem? (i := 4) rfl)) (hw _ (List.mem_of_getElem? (i := 3) rfl)) (by decide) (by decide)) (g := (mkF m 22 #[.val (.int p0), .val (.int p1), .val (.int (1 : Int32)), .val (.int (3 : Int32)), .unset] [(.int (3 : Int32))])) rfl (by rw [hml]; rfl) (argsL := [(.int (3 : Int32))]) (rest := []) (lenOf pd_0 rfl) rfl (by show 2 * 0 + _ ≤ _; exact Nat.le_of_eq rfl) (hb hby at_22) (fun _ _ => ⟨rfl, e41, (by decide : 0 + 0 ≤ _), (by decide : 0 + 0 ≤ _)⟩)
      dsimp only [Pt.U, Pt.locs, Pt.cells, Pt.slots] at X42 l42 y42 z42 st42 hQ42
      subst l42 y42 z42
      obtain ⟨rfl, N42q, e42⟩ := hQ42
      have N42 := Fr.app N41 N42q
      refine own_go (B := T42.setTop (mkF m 25 #[.val (.int p0), .val (.int p1), .val (.int (1 : Int32)), .val (.int (3 : Int32)), .unset] [(.int (1 : Int32))])) st42 ?_
      refine own_go (B := T42.setTop (mkF m 28 #[.val (.int p0), .val (.int p1), .val (.int (1 : Int32)), .val (.int (3 : Int32)), .unset] [])) (fun _ k => XS.ifNo X42.here hx rfl (hb hby at_25) rfl (by decide) k) ?_
      refine own_go (B := T42.setTop (mkF m 29 #[.val (.int p0), .val (.int p1), .val (.int (1 : Int32)), .val (.int (3 : Int32)), .unset] [(.int (1 : Int32))])) (fun _ k => XT.iconstV X42.here hx rfl (1 : Int32) (hb hby at_28) rfl k) ?_
      refine own_go (B := T42.setTop (mkF m 33 #[.val (.int p0), .val (.int p1), .val (.int (1 : Int32)), .val (.int (3 : Int32)), .unset] [(.int (1 : Int32))])) (fun _ k => XS.goto X42.here hx rfl (pc0 := 29) (pc' := 33) rfl (hb hby at_29) (by decide) (by decide) k) ?_
      refine own_go (B := T42.setTop (mkF m 35 #[.val (.int p0), .val (.int p1), .val (.int (1 : Int32)), .val (.int (3 : Int32)), .val (.int (1 : Int32))] [])) (fun _ k => XS.istore X42.here hx rfl (hb hby at_33) rfl (l' := #[.val (.int p0), .val (.int p1), .val (.int (1 : Int32)), .val (.int (3 : Int32)), .val (.int (1 : Int32))]) rfl k) ?_
      refine own_go (B := T42.setTop (mkF m 36 #[.val (.int p0), .val (.int p1), .val (.int (1 : Int32)), .val (.int (3 : Int32)), .val (.int (1 : Int32))] [(.int (1 : Int32))])) (fun _ k => XS.iloadN X42.here hx rfl (hb hby at_35) rfl k) ?_
      obtain ⟨_, _, ⟨T43, L43, k43, n43⟩, -, X43, ⟨Lc43, hQ43, l43, y43, z43⟩, st43⟩ := Jvm.LawKit.callS X42 hx (y := (⟨"com/example/oblate/oblate/FrameNeedsReferencePinLaw", "pick", "(I)Lcom/example/oblate/oblate/Frame;"⟩ : MethodName)) hown (mvT hZ (hw _ (List.mem_of_getElem? (i := 5) rfl))) (mvT hZ (hw _ (List.mem_of_getElem? (i := 6) rfl))) (mvT hZ (hw _ (List.mem_of_getElem? (i := 3) rfl))) (mvT hZ (hw _ (List.mem_of_getElem? (i := 7) rfl))) (by decide) (own_back (W := 0) (rm2_1 l Z a0 hw []  A hW h0 x0 ) hZ (hw _ (List.mem_of_getElem? (i := 7) rfl)) (hw _ (List.mem_of_getElem? (i := 3) rfl)) (by decide) (by decide)) (g := (mkF m 36 #[.val (.int p0), .val (.int p1), .val (.int (1 : Int32)), .val (.int (3 : Int32)), .val (.int (1 : Int32))] [(.int (1 : Int32))])) rfl (by rw [hml]; rfl) (argsL := [(.int (1 : Int32))]) (rest := []) (lenOf pd_1 rfl) rfl (by show 2 * 0 + _ ≤ _; exact Nat.le_of_eq rfl) (hb hby at_36) (fun _ _ => ⟨rfl, e42, (by decide : 0 + 0 ≤ _), (by decide : 0 + 0 ≤ _)⟩)
      dsimp only [Pt.U, Pt.locs, Pt.cells, Pt.slots] at X43 l43 y43 z43 st43 hQ43
      subst l43 y43 z43
      obtain ⟨rfl, N43q, e43⟩ := hQ43
      have N43 := Fr.app N42 N43q
      refine own_go (B := T43.setTop (mkF m 39 #[.val (.int p0), .val (.int p1), .val (.int (1 : Int32)), .val (.int (3 : Int32)), .val (.int (1 : Int32))] [(.ref (A 3))])) st43 ?_
      refine own_go (B := T43.setTop (mkF m 40 #[.val (.int p0), .val (.int p1), .val (.int (1 : Int32)), .val (.int (3 : Int32)), .val (.int (1 : Int32))] [(.int (3 : Int32)), (.ref (A 3))])) (fun _ k => XS.iloadN X43.here hx rfl (hb hby at_39) rfl k) ?_
      obtain ⟨_, _, ⟨T44, L44, k44, n44⟩, -, X44, ⟨Lc44, hQ44, l44, y44, z44⟩, st44⟩ := Jvm.LawKit.callS X43 hx (y := (⟨"com/example/oblate/oblate/FrameNeedsReferencePinLaw", "pick", "(I)Lcom/example/oblate/oblate/Frame;"⟩ : MethodName)) hown (mvT hZ (hw _ (List.mem_of_getElem? (i := 5) rfl))) (mvT hZ (hw _ (List.mem_of_getElem? (i := 6) rfl))) (mvT hZ (hw _ (List.mem_of_getElem? (i := 3) rfl))) (mvT hZ (hw _ (List.mem_of_getElem? (i := 7) rfl))) (by decide) (own_back (W := 1) (rm2_3 l Z a0 hw []  A hW h0 x0 ) hZ (hw _ (List.mem_of_getElem? (i := 7) rfl)) (hw _ (List.mem_of_getElem? (i := 3) rfl)) (by decide) (by decide)) (g := (mkF m 40 #[.val (.int p0), .val (.int p1), .val (.int (1 : Int32)), .val (.int (3 : Int32)), .val (.int (1 : Int32))] [(.int (3 : Int32)), (.ref (A 3))])) rfl (by rw [hml]; rfl) (argsL := [(.int (3 : Int32))]) (rest := [(.ref (A 3))]) (lenOf pd_1 rfl) rfl (by show 2 * 0 + _ ≤ _; exact Nat.le_of_eq rfl) (hb hby at_40) (fun _ _ => ⟨rfl, e43, (by decide : 0 + 0 ≤ _), (by decide : 0 + 0 ≤ _)⟩)
      dsimp only [Pt.U, Pt.locs, Pt.cells, Pt.slots] at X44 l44 y44 z44 st44 hQ44
      subst l44 y44 z44
      obtain ⟨rfl, N44q, e44⟩ := hQ44
      have N44 := Fr.app N43 N44q
      refine own_go (B := T44.setTop (mkF m 43 #[.val (.int p0), .val (.int p1), .val (.int (1 : Int32)), .val (.int (3 : Int32)), .val (.int (1 : Int32))] [(.ref (A 1)), (.ref (A 3))])) st44 ?_
      obtain ⟨cq45, kq45, q45a, q45b, q45c⟩ := isOf hZ e44 (E_ECEF.ext x0)
      obtain ⟨_, _, ⟨T45, L45, k45, n45⟩, -, X45, ⟨Lc45, hQ45, l45, y45, z45⟩, st45⟩ := X44.virtualBack hx (y := (⟨"com/example/oblate/oblate/Frame", "needsReference", "(Lcom/example/oblate/oblate/Frame;)Z"⟩ : MethodName)) (z := (⟨"com/example/oblate/oblate/Frame", "needsReference", "(Lcom/example/oblate/oblate/Frame;)Z"⟩ : MethodName)) hown (mvT hZ (hw _ (List.mem_of_getElem? (i := 13) rfl))) (mvT hZ (hw _ (List.mem_of_getElem? (i := 14) rfl))) (notFace_of_selects (args := #[]) (mvT hZ (hw _ (List.mem_of_getElem? (i := 28) rfl)))) (mvT hZ (hw _ (List.mem_of_getElem? (i := 28) rfl))) (mvT hZ (hw _ (List.mem_of_getElem? (i := 15) rfl))) (by decide) (own_back (W := 0) (rm3_8 l Z a0 hw []  A hW h0 x0 ) hZ (hw _ (List.mem_of_getElem? (i := 17) rfl)) (hw _ (List.mem_of_getElem? (i := 9) rfl)) (by decide) (by decide)) q45a q45c (g := (mkF m 43 #[.val (.int p0), .val (.int p1), .val (.int (1 : Int32)), .val (.int (3 : Int32)), .val (.int (1 : Int32))] [(.ref (A 1)), (.ref (A 3))])) rfl (by rw [hml]; rfl) (Steps.refl _) (argsL := [(.ref (A 1))]) (rest := []) (lenOf pd_2 rfl) rfl (by show 2 * 0 + _ ≤ _; exact Nat.le_of_eq rfl) (hb hby at_43) (fun _ _ => ⟨rfl, e44, (by decide : 0 + 0 ≤ _), (by decide : 0 + 0 ≤ _)⟩)
      dsimp only [Pt.U, Pt.locs, Pt.cells, Pt.slots] at X45 l45 y45 z45 st45 hQ45
      subst l45 y45 z45
      obtain ⟨rfl, N45q, e45⟩ := hQ45
      have N45 := Fr.app N44 N45q
      refine own_go (B := T45.setTop (mkF m 46 #[.val (.int p0), .val (.int p1), .val (.int (1 : Int32)), .val (.int (3 : Int32)), .val (.int (1 : Int32))] [(.int (1 : Int32))])) (fun _ k => st45.trans k) ?_
      refine own_go (B := T45.setTop (mkF m 48 #[.val (.int p0), .val (.int p1), .val (.int (1 : Int32)), .val (.int (3 : Int32)), .val (.int (1 : Int32))] [(.int (1 : Int32)), (.int (1 : Int32))])) (fun _ k => XS.iload X45.here hx rfl (hb hby at_46) rfl k) ?_
      refine own_go (B := T45.setTop (mkF m 51 #[.val (.int p0), .val (.int p1), .val (.int (1 : Int32)), .val (.int (3 : Int32)), .val (.int (1 : Int32))] [])) (fun _ k => XS.icmpNo X45.here hx rfl (hb hby at_48) rfl (by decide) k) ?_
      refine own_go (B := T45.setTop (mkF m 52 #[.val (.int p0), .val (.int p1), .val (.int (1 : Int32)), .val (.int (3 : Int32)), .val (.int (1 : Int32))] [(.int (1 : Int32))])) (fun _ k => XT.iconstV X45.here hx rfl (1 : Int32) (hb hby at_51) rfl k) ?_
      refine own_go (B := T45.setTop (mkF m 56 #[.val (.int p0), .val (.int p1), .val (.int (1 : Int32)), .val (.int (3 : Int32)), .val (.int (1 : Int32))] [(.int (1 : Int32))])) (fun _ k => XS.goto X45.here hx rfl (pc0 := 52) (pc' := 56) rfl (hb hby at_52) (by decide) (by decide) k) ?_
      exact own_ret X45 hx (t := .boolean) hrt rfl (Or.inl ⟨rfl, by simp, _, rfl⟩) (hb hby at_56) hlk ⟨rfl, N45⟩ (by decide) (by decide)
    · refine own_go (B := s₁.setTop (mkF m 15 #[.val (.int p0), .val (.int p1), .val (.int (1 : Int32)), .val (.int (4 : Int32)), .unset] [(.int (1 : Int32))])) (fun _ k => XS.iloadN X0.here hx rfl (hb hby at_14) rfl k) ?_
      obtain ⟨_, _, ⟨T46, L46, k46, n46⟩, -, X46, ⟨Lc46, hQ46, l46, y46, z46⟩, st46⟩ := Jvm.LawKit.callS X0 hx (y := (⟨"com/example/oblate/oblate/FrameNeedsReferencePinLaw", "isLocalByDoc", "(I)Z"⟩ : MethodName)) hown (mvT hZ (hw _ (List.mem_of_getElem? (i := 1) rfl))) (mvT hZ (hw _ (List.mem_of_getElem? (i := 2) rfl))) (mvT hZ (hw _ (List.mem_of_getElem? (i := 3) rfl))) (mvT hZ (hw _ (List.mem_of_getElem? (i := 4) rfl))) (by decide) (own_back (W := 0) (rm1_1 l Z a0 hw []  A hW h0 x0 ) hZ (hw _ (List.mem_of_getElem? (i := 4) rfl)) (hw _ (List.mem_of_getElem? (i := 3) rfl)) (by decide) (by decide)) (g := (mkF m 15 #[.val (.int p0), .val (.int p1), .val (.int (1 : Int32)), .val (.int (4 : Int32)), .unset] [(.int (1 : Int32))])) rfl (by rw [hml]; rfl) (argsL := [(.int (1 : Int32))]) (rest := []) (lenOf pd_0 rfl) rfl (by show 2 * 0 + _ ≤ _; exact Nat.le_of_eq rfl) (hb hby at_15) (fun _ _ => ⟨rfl, e0, (by decide : 0 + 0 ≤ _), (by decide : 0 + 0 ≤ _)⟩)
      dsimp only [Pt.U, Pt.locs, Pt.cells, Pt.slots] at X46 l46 y46 z46 st46 hQ46
      subst l46 y46 z46
      obtain ⟨rfl, N46q, e46⟩ := hQ46
      have N46 := Fr.app N0 N46q
      refine own_go (B := T46.setTop (mkF m 18 #[.val (.int p0), .val (.int p1), .val (.int (1 : Int32)), .val (.int (4 : Int32)), .unset] [(.int (0 : Int32))])) st46 ?_
      refine own_go (B := T46.setTop (mkF m 21 #[.val (.int p0), .val (.int p1), .val (.int (1 : Int32)), .val (.int (4 : Int32)), .unset] [])) (fun _ k => XS.ifNo X46.here hx rfl (hb hby at_18) rfl (by decide) k) ?_
      refine own_go (B := T46.setTop (mkF m 22 #[.val (.int p0), .val (.int p1), .val (.int (1 : Int32)), .val (.int (4 : Int32)), .unset] [(.int (4 : Int32))])) (fun _ k => XS.iloadN X46.here hx rfl (hb hby at_21) rfl k) ?_
      obtain ⟨_, _, ⟨T47, L47, k47, n47⟩, -, X47, ⟨Lc47, hQ47, l47, y47, z47⟩, st47⟩ := Jvm.LawKit.callS X46 hx (y := (⟨"com/example/oblate/oblate/FrameNeedsReferencePinLaw", "isLocalByDoc", "(I)Z"⟩ : MethodName)) hown (mvT hZ (hw _ (List.mem_of_getElem? (i := 1) rfl))) (mvT hZ (hw _ (List.mem_of_getElem? (i := 2) rfl))) (mvT hZ (hw _ (List.mem_of_getElem? (i := 3) rfl))) (mvT hZ (hw _ (List.mem_of_getElem? (i := 4) rfl))) (by decide) (own_back (W := 0) (rm1_4 l Z a0 hw []  A hW h0 x0 ) hZ (hw _ (List.mem_of_getElem? (i := 4) rfl)) (hw _ (List.mem_of_getElem? (i := 3) rfl)) (by decide) (by decide)) (g := (mkF m 22 #[.val (.int p0), .val (.int p1), .val (.int (1 : Int32)), .val (.int (4 : Int32)), .unset] [(.int (4 : Int32))])) rfl (by rw [hml]; rfl) (argsL := [(.int (4 : Int32))]) (rest := []) (lenOf pd_0 rfl) rfl (by show 2 * 0 + _ ≤ _; exact Nat.le_of_eq rfl) (hb hby at_22) (fun _ _ => ⟨rfl, e46, (by decide : 0 + 0 ≤ _), (by decide : 0 + 0 ≤ _)⟩)
      dsimp only [Pt.U, Pt.locs, Pt.cells, Pt.slots] at X47 l47 y47 z47 st47 hQ47
      subst l47 y47 z47
      obtain ⟨rfl, N47q, e47⟩ := hQ47
      have N47 := Fr.app N46 N47q
      refine own_go (B := T47.setTop (mkF m 25 #[.val (.int p0), .val (.int p1), .val (.int (1 : Int32)), .val (.int (4 : Int32)), .unset] [(.int (1 : Int32))])) st47 ?_
      refine own_go (B := T47.setTop (mkF m 28 #[.val (.int p0), .val (.int p1), .val (.int (1 : Int32)), .val (.int (4 : Int32)), .unset] [])) (fun _ k => XS.ifNo X47.here hx rfl (hb hby at_25) rfl (by decide) k) ?_
      refine own_go (B := T47.setTop (mkF m 29 #[.val (.int p0), .val (.int p1), .val (.int (1 : Int32)), .val (.int (4 : Int32)), .unset] [(.int (1 : Int32))])) (fun _ k => XT.iconstV X47.here hx rfl (1 : Int32) (hb hby at_28) rfl k) ?_
      refine own_go (B := T47.setTop (mkF m 33 #[.val (.int p0), .val (.int p1), .val (.int (1 : Int32)), .val (.int (4 : Int32)), .unset] [(.int (1 : Int32))])) (fun _ k => XS.goto X47.here hx rfl (pc0 := 29) (pc' := 33) rfl (hb hby at_29) (by decide) (by decide) k) ?_
      refine own_go (B := T47.setTop (mkF m 35 #[.val (.int p0), .val (.int p1), .val (.int (1 : Int32)), .val (.int (4 : Int32)), .val (.int (1 : Int32))] [])) (fun _ k => XS.istore X47.here hx rfl (hb hby at_33) rfl (l' := #[.val (.int p0), .val (.int p1), .val (.int (1 : Int32)), .val (.int (4 : Int32)), .val (.int (1 : Int32))]) rfl k) ?_
      refine own_go (B := T47.setTop (mkF m 36 #[.val (.int p0), .val (.int p1), .val (.int (1 : Int32)), .val (.int (4 : Int32)), .val (.int (1 : Int32))] [(.int (1 : Int32))])) (fun _ k => XS.iloadN X47.here hx rfl (hb hby at_35) rfl k) ?_
      obtain ⟨_, _, ⟨T48, L48, k48, n48⟩, -, X48, ⟨Lc48, hQ48, l48, y48, z48⟩, st48⟩ := Jvm.LawKit.callS X47 hx (y := (⟨"com/example/oblate/oblate/FrameNeedsReferencePinLaw", "pick", "(I)Lcom/example/oblate/oblate/Frame;"⟩ : MethodName)) hown (mvT hZ (hw _ (List.mem_of_getElem? (i := 5) rfl))) (mvT hZ (hw _ (List.mem_of_getElem? (i := 6) rfl))) (mvT hZ (hw _ (List.mem_of_getElem? (i := 3) rfl))) (mvT hZ (hw _ (List.mem_of_getElem? (i := 7) rfl))) (by decide) (own_back (W := 0) (rm2_1 l Z a0 hw []  A hW h0 x0 ) hZ (hw _ (List.mem_of_getElem? (i := 7) rfl)) (hw _ (List.mem_of_getElem? (i := 3) rfl)) (by decide) (by decide)) (g := (mkF m 36 #[.val (.int p0), .val (.int p1), .val (.int (1 : Int32)), .val (.int (4 : Int32)), .val (.int (1 : Int32))] [(.int (1 : Int32))])) rfl (by rw [hml]; rfl) (argsL := [(.int (1 : Int32))]) (rest := []) (lenOf pd_1 rfl) rfl (by show 2 * 0 + _ ≤ _; exact Nat.le_of_eq rfl) (hb hby at_36) (fun _ _ => ⟨rfl, e47, (by decide : 0 + 0 ≤ _), (by decide : 0 + 0 ≤ _)⟩)
      dsimp only [Pt.U, Pt.locs, Pt.cells, Pt.slots] at X48 l48 y48 z48 st48 hQ48
      subst l48 y48 z48
      obtain ⟨rfl, N48q, e48⟩ := hQ48
      have N48 := Fr.app N47 N48q
      refine own_go (B := T48.setTop (mkF m 39 #[.val (.int p0), .val (.int p1), .val (.int (1 : Int32)), .val (.int (4 : Int32)), .val (.int (1 : Int32))] [(.ref (A 3))])) st48 ?_
      refine own_go (B := T48.setTop (mkF m 40 #[.val (.int p0), .val (.int p1), .val (.int (1 : Int32)), .val (.int (4 : Int32)), .val (.int (1 : Int32))] [(.int (4 : Int32)), (.ref (A 3))])) (fun _ k => XS.iloadN X48.here hx rfl (hb hby at_39) rfl k) ?_
      obtain ⟨_, _, ⟨T49, L49, k49, n49⟩, -, X49, ⟨Lc49, hQ49, l49, y49, z49⟩, st49⟩ := Jvm.LawKit.callS X48 hx (y := (⟨"com/example/oblate/oblate/FrameNeedsReferencePinLaw", "pick", "(I)Lcom/example/oblate/oblate/Frame;"⟩ : MethodName)) hown (mvT hZ (hw _ (List.mem_of_getElem? (i := 5) rfl))) (mvT hZ (hw _ (List.mem_of_getElem? (i := 6) rfl))) (mvT hZ (hw _ (List.mem_of_getElem? (i := 3) rfl))) (mvT hZ (hw _ (List.mem_of_getElem? (i := 7) rfl))) (by decide) (own_back (W := 1) (rm2_4 l Z a0 hw []  A hW h0 x0 ) hZ (hw _ (List.mem_of_getElem? (i := 7) rfl)) (hw _ (List.mem_of_getElem? (i := 3) rfl)) (by decide) (by decide)) (g := (mkF m 40 #[.val (.int p0), .val (.int p1), .val (.int (1 : Int32)), .val (.int (4 : Int32)), .val (.int (1 : Int32))] [(.int (4 : Int32)), (.ref (A 3))])) rfl (by rw [hml]; rfl) (argsL := [(.int (4 : Int32))]) (rest := [(.ref (A 3))]) (lenOf pd_1 rfl) rfl (by show 2 * 0 + _ ≤ _; exact Nat.le_of_eq rfl) (hb hby at_40) (fun _ _ => ⟨rfl, e48, (by decide : 0 + 0 ≤ _), (by decide : 0 + 0 ≤ _)⟩)
      dsimp only [Pt.U, Pt.locs, Pt.cells, Pt.slots] at X49 l49 y49 z49 st49 hQ49
      subst l49 y49 z49
      obtain ⟨rfl, N49q, e49⟩ := hQ49
      have N49 := Fr.app N48 N49q
      refine own_go (B := T49.setTop (mkF m 43 #[.val (.int p0), .val (.int p1), .val (.int (1 : Int32)), .val (.int (4 : Int32)), .val (.int (1 : Int32))] [(.ref (A 2)), (.ref (A 3))])) st49 ?_
      obtain ⟨cq50, kq50, q50a, q50b, q50c⟩ := isOf hZ e49 (E_ECEF.ext x0)
      obtain ⟨_, _, ⟨T50, L50, k50, n50⟩, -, X50, ⟨Lc50, hQ50, l50, y50, z50⟩, st50⟩ := X49.virtualBack hx (y := (⟨"com/example/oblate/oblate/Frame", "needsReference", "(Lcom/example/oblate/oblate/Frame;)Z"⟩ : MethodName)) (z := (⟨"com/example/oblate/oblate/Frame", "needsReference", "(Lcom/example/oblate/oblate/Frame;)Z"⟩ : MethodName)) hown (mvT hZ (hw _ (List.mem_of_getElem? (i := 13) rfl))) (mvT hZ (hw _ (List.mem_of_getElem? (i := 14) rfl))) (notFace_of_selects (args := #[]) (mvT hZ (hw _ (List.mem_of_getElem? (i := 28) rfl)))) (mvT hZ (hw _ (List.mem_of_getElem? (i := 28) rfl))) (mvT hZ (hw _ (List.mem_of_getElem? (i := 15) rfl))) (by decide) (own_back (W := 0) (rm3_9 l Z a0 hw []  A hW h0 x0 ) hZ (hw _ (List.mem_of_getElem? (i := 17) rfl)) (hw _ (List.mem_of_getElem? (i := 9) rfl)) (by decide) (by decide)) q50a q50c (g := (mkF m 43 #[.val (.int p0), .val (.int p1), .val (.int (1 : Int32)), .val (.int (4 : Int32)), .val (.int (1 : Int32))] [(.ref (A 2)), (.ref (A 3))])) rfl (by rw [hml]; rfl) (Steps.refl _) (argsL := [(.ref (A 2))]) (rest := []) (lenOf pd_2 rfl) rfl (by show 2 * 0 + _ ≤ _; exact Nat.le_of_eq rfl) (hb hby at_43) (fun _ _ => ⟨rfl, e49, (by decide : 0 + 0 ≤ _), (by decide : 0 + 0 ≤ _)⟩)
      dsimp only [Pt.U, Pt.locs, Pt.cells, Pt.slots] at X50 l50 y50 z50 st50 hQ50
      subst l50 y50 z50
      obtain ⟨rfl, N50q, e50⟩ := hQ50
      have N50 := Fr.app N49 N50q
      refine own_go (B := T50.setTop (mkF m 46 #[.val (.int p0), .val (.int p1), .val (.int (1 : Int32)), .val (.int (4 : Int32)), .val (.int (1 : Int32))] [(.int (1 : Int32))])) (fun _ k => st50.trans k) ?_
      refine own_go (B := T50.setTop (mkF m 48 #[.val (.int p0), .val (.int p1), .val (.int (1 : Int32)), .val (.int (4 : Int32)), .val (.int (1 : Int32))] [(.int (1 : Int32)), (.int (1 : Int32))])) (fun _ k => XS.iload X50.here hx rfl (hb hby at_46) rfl k) ?_
      refine own_go (B := T50.setTop (mkF m 51 #[.val (.int p0), .val (.int p1), .val (.int (1 : Int32)), .val (.int (4 : Int32)), .val (.int (1 : Int32))] [])) (fun _ k => XS.icmpNo X50.here hx rfl (hb hby at_48) rfl (by decide) k) ?_
      refine own_go (B := T50.setTop (mkF m 52 #[.val (.int p0), .val (.int p1), .val (.int (1 : Int32)), .val (.int (4 : Int32)), .val (.int (1 : Int32))] [(.int (1 : Int32))])) (fun _ k => XT.iconstV X50.here hx rfl (1 : Int32) (hb hby at_51) rfl k) ?_
      refine own_go (B := T50.setTop (mkF m 56 #[.val (.int p0), .val (.int p1), .val (.int (1 : Int32)), .val (.int (4 : Int32)), .val (.int (1 : Int32))] [(.int (1 : Int32))])) (fun _ k => XS.goto X50.here hx rfl (pc0 := 52) (pc' := 56) rfl (hb hby at_52) (by decide) (by decide) k) ?_
      exact own_ret X50 hx (t := .boolean) hrt rfl (Or.inl ⟨rfl, by simp, _, rfl⟩) (hb hby at_56) hlk ⟨rfl, N50⟩ (by decide) (by decide)
  · refine own_go (B := s₁.setTop (mkF m 8 #[.val (.int p0), .val (.int p1), .val (.int (2 : Int32)), .unset, .unset] [(.int p1)])) (fun _ k => XS.iloadN X0.here hx rfl (hb hby at_7) rfl k) ?_
    refine own_go (B := s₁.setTop (mkF m 10 #[.val (.int p0), .val (.int p1), .val (.int (2 : Int32)), .unset, .unset] [(.int (2147483647 : Int32)), (.int p1)])) (fun _ k => Jvm.Stand.ldcI X0 hx hown (mvT hZ (hw _ (List.mem_of_getElem? (i := 0) rfl))) (g := (mkF m 8 #[.val (.int p0), .val (.int p1), .val (.int (2 : Int32)), .unset, .unset] [(.int p1)])) rfl (hb hby at_8) k) ?_
    refine own_go (B := s₁.setTop (mkF m 11 #[.val (.int p0), .val (.int p1), .val (.int (2 : Int32)), .unset, .unset] [(.int (p1 &&& (2147483647 : Int32)))])) (fun _ k => XS.iand X0.here hx rfl (hb hby at_10) rfl k) ?_
    refine own_go (B := s₁.setTop (mkF m 12 #[.val (.int p0), .val (.int p1), .val (.int (2 : Int32)), .unset, .unset] [(.int (5 : Int32)), (.int (p1 &&& (2147483647 : Int32)))])) (fun _ k => XT.iconstV X0.here hx rfl (5 : Int32) (hb hby at_11) rfl k) ?_
    refine own_go (B := s₁.setTop (mkF m 13 #[.val (.int p0), .val (.int p1), .val (.int (2 : Int32)), .unset, .unset] [(.int ((p1 &&& (2147483647 : Int32)) % (5 : Int32)))])) (fun _ k => iremM (g := (mkF m 12 #[.val (.int p0), .val (.int p1), .val (.int (2 : Int32)), .unset, .unset] [(.int (5 : Int32)), (.int (p1 &&& (2147483647 : Int32)))])) X0 hx rfl (hb hby at_12) rfl (by decide) k) ?_
    refine own_go (B := s₁.setTop (mkF m 14 #[.val (.int p0), .val (.int p1), .val (.int (2 : Int32)), .val (.int ((p1 &&& (2147483647 : Int32)) % (5 : Int32))), .unset] [])) (fun _ k => XS.istoreN X0.here hx rfl (hb hby at_13) rfl (l' := #[.val (.int p0), .val (.int p1), .val (.int (2 : Int32)), .val (.int ((p1 &&& (2147483647 : Int32)) % (5 : Int32))), .unset]) rfl k) ?_
    obtain ⟨ip1, hip1⟩ : ∃ z : Int32, ((p1 &&& (2147483647 : Int32)) % (5 : Int32)) = z := ⟨_, rfl⟩
    rw [hip1]
    have hcs := own_c5 p1
    rw [hip1] at hcs
    rcases hcs with rfl | rfl | rfl | rfl | rfl
    · refine own_go (B := s₁.setTop (mkF m 15 #[.val (.int p0), .val (.int p1), .val (.int (2 : Int32)), .val (.int (0 : Int32)), .unset] [(.int (2 : Int32))])) (fun _ k => XS.iloadN X0.here hx rfl (hb hby at_14) rfl k) ?_
      obtain ⟨_, _, ⟨T51, L51, k51, n51⟩, -, X51, ⟨Lc51, hQ51, l51, y51, z51⟩, st51⟩ := Jvm.LawKit.callS X0 hx (y := (⟨"com/example/oblate/oblate/FrameNeedsReferencePinLaw", "isLocalByDoc", "(I)Z"⟩ : MethodName)) hown (mvT hZ (hw _ (List.mem_of_getElem? (i := 1) rfl))) (mvT hZ (hw _ (List.mem_of_getElem? (i := 2) rfl))) (mvT hZ (hw _ (List.mem_of_getElem? (i := 3) rfl))) (mvT hZ (hw _ (List.mem_of_getElem? (i := 4) rfl))) (by decide) (own_back (W := 0) (rm1_2 l Z a0 hw []  A hW h0 x0 ) hZ (hw _ (List.mem_of_getElem? (i := 4) rfl)) (hw _ (List.mem_of_getElem? (i := 3) rfl)) (by decide) (by decide)) (g := (mkF m 15 #[.val (.int p0), .val (.int p1), .val (.int (2 : Int32)), .val (.int (0 : Int32)), .unset] [(.int (2 : Int32))])) rfl (by rw [hml]; rfl) (argsL := [(.int (2 : Int32))]) (rest := []) (lenOf pd_0 rfl) rfl (by show 2 * 0 + _ ≤ _; exact Nat.le_of_eq rfl) (hb hby at_15) (fun _ _ => ⟨rfl, e0, (by decide : 0 + 0 ≤ _), (by decide : 0 + 0 ≤ _)⟩)
      dsimp only [Pt.U, Pt.locs, Pt.cells, Pt.slots] at X51 l51 y51 z51 st51 hQ51
      subst l51 y51 z51
      obtain ⟨rfl, N51q, e51⟩ := hQ51
      have N51 := Fr.app N0 N51q
      refine own_go (B := T51.setTop (mkF m 18 #[.val (.int p0), .val (.int p1), .val (.int (2 : Int32)), .val (.int (0 : Int32)), .unset] [(.int (1 : Int32))])) st51 ?_
      refine own_go (B := T51.setTop (mkF m 28 #[.val (.int p0), .val (.int p1), .val (.int (2 : Int32)), .val (.int (0 : Int32)), .unset] [])) (fun _ k => XS.ifYes X51.here hx rfl (pc0 := 18) (pc' := 28) rfl (hb hby at_18) rfl (by decide) (by decide) (by decide) k) ?_
      refine own_go (B := T51.setTop (mkF m 29 #[.val (.int p0), .val (.int p1), .val (.int (2 : Int32)), .val (.int (0 : Int32)), .unset] [(.int (1 : Int32))])) (fun _ k => XT.iconstV X51.here hx rfl (1 : Int32) (hb hby at_28) rfl k) ?_
      refine own_go (B := T51.setTop (mkF m 33 #[.val (.int p0), .val (.int p1), .val (.int (2 : Int32)), .val (.int (0 : Int32)), .unset] [(.int (1 : Int32))])) (fun _ k => XS.goto X51.here hx rfl (pc0 := 29) (pc' := 33) rfl (hb hby at_29) (by decide) (by decide) k) ?_
      refine own_go (B := T51.setTop (mkF m 35 #[.val (.int p0), .val (.int p1), .val (.int (2 : Int32)), .val (.int (0 : Int32)), .val (.int (1 : Int32))] [])) (fun _ k => XS.istore X51.here hx rfl (hb hby at_33) rfl (l' := #[.val (.int p0), .val (.int p1), .val (.int (2 : Int32)), .val (.int (0 : Int32)), .val (.int (1 : Int32))]) rfl k) ?_
      refine own_go (B := T51.setTop (mkF m 36 #[.val (.int p0), .val (.int p1), .val (.int (2 : Int32)), .val (.int (0 : Int32)), .val (.int (1 : Int32))] [(.int (2 : Int32))])) (fun _ k => XS.iloadN X51.here hx rfl (hb hby at_35) rfl k) ?_
      obtain ⟨_, _, ⟨T52, L52, k52, n52⟩, -, X52, ⟨Lc52, hQ52, l52, y52, z52⟩, st52⟩ := Jvm.LawKit.callS X51 hx (y := (⟨"com/example/oblate/oblate/FrameNeedsReferencePinLaw", "pick", "(I)Lcom/example/oblate/oblate/Frame;"⟩ : MethodName)) hown (mvT hZ (hw _ (List.mem_of_getElem? (i := 5) rfl))) (mvT hZ (hw _ (List.mem_of_getElem? (i := 6) rfl))) (mvT hZ (hw _ (List.mem_of_getElem? (i := 3) rfl))) (mvT hZ (hw _ (List.mem_of_getElem? (i := 7) rfl))) (by decide) (own_back (W := 0) (rm2_2 l Z a0 hw []  A hW h0 x0 ) hZ (hw _ (List.mem_of_getElem? (i := 7) rfl)) (hw _ (List.mem_of_getElem? (i := 3) rfl)) (by decide) (by decide)) (g := (mkF m 36 #[.val (.int p0), .val (.int p1), .val (.int (2 : Int32)), .val (.int (0 : Int32)), .val (.int (1 : Int32))] [(.int (2 : Int32))])) rfl (by rw [hml]; rfl) (argsL := [(.int (2 : Int32))]) (rest := []) (lenOf pd_1 rfl) rfl (by show 2 * 0 + _ ≤ _; exact Nat.le_of_eq rfl) (hb hby at_36) (fun _ _ => ⟨rfl, e51, (by decide : 0 + 0 ≤ _), (by decide : 0 + 0 ≤ _)⟩)
      dsimp only [Pt.U, Pt.locs, Pt.cells, Pt.slots] at X52 l52 y52 z52 st52 hQ52
      subst l52 y52 z52
      obtain ⟨rfl, N52q, e52⟩ := hQ52
      have N52 := Fr.app N51 N52q
      refine own_go (B := T52.setTop (mkF m 39 #[.val (.int p0), .val (.int p1), .val (.int (2 : Int32)), .val (.int (0 : Int32)), .val (.int (1 : Int32))] [(.ref (A 4))])) st52 ?_
      refine own_go (B := T52.setTop (mkF m 40 #[.val (.int p0), .val (.int p1), .val (.int (2 : Int32)), .val (.int (0 : Int32)), .val (.int (1 : Int32))] [(.int (0 : Int32)), (.ref (A 4))])) (fun _ k => XS.iloadN X52.here hx rfl (hb hby at_39) rfl k) ?_
      obtain ⟨_, _, ⟨T53, L53, k53, n53⟩, -, X53, ⟨Lc53, hQ53, l53, y53, z53⟩, st53⟩ := Jvm.LawKit.callS X52 hx (y := (⟨"com/example/oblate/oblate/FrameNeedsReferencePinLaw", "pick", "(I)Lcom/example/oblate/oblate/Frame;"⟩ : MethodName)) hown (mvT hZ (hw _ (List.mem_of_getElem? (i := 5) rfl))) (mvT hZ (hw _ (List.mem_of_getElem? (i := 6) rfl))) (mvT hZ (hw _ (List.mem_of_getElem? (i := 3) rfl))) (mvT hZ (hw _ (List.mem_of_getElem? (i := 7) rfl))) (by decide) (own_back (W := 1) (rm2_0 l Z a0 hw []  A hW h0 x0 ) hZ (hw _ (List.mem_of_getElem? (i := 7) rfl)) (hw _ (List.mem_of_getElem? (i := 3) rfl)) (by decide) (by decide)) (g := (mkF m 40 #[.val (.int p0), .val (.int p1), .val (.int (2 : Int32)), .val (.int (0 : Int32)), .val (.int (1 : Int32))] [(.int (0 : Int32)), (.ref (A 4))])) rfl (by rw [hml]; rfl) (argsL := [(.int (0 : Int32))]) (rest := [(.ref (A 4))]) (lenOf pd_1 rfl) rfl (by show 2 * 0 + _ ≤ _; exact Nat.le_of_eq rfl) (hb hby at_40) (fun _ _ => ⟨rfl, e52, (by decide : 0 + 0 ≤ _), (by decide : 0 + 0 ≤ _)⟩)
      dsimp only [Pt.U, Pt.locs, Pt.cells, Pt.slots] at X53 l53 y53 z53 st53 hQ53
      subst l53 y53 z53
      obtain ⟨rfl, N53q, e53⟩ := hQ53
      have N53 := Fr.app N52 N53q
      refine own_go (B := T53.setTop (mkF m 43 #[.val (.int p0), .val (.int p1), .val (.int (2 : Int32)), .val (.int (0 : Int32)), .val (.int (1 : Int32))] [(.ref (A 0)), (.ref (A 4))])) st53 ?_
      obtain ⟨cq54, kq54, q54a, q54b, q54c⟩ := isOf hZ e53 (E_ENU.ext x0)
      obtain ⟨_, _, ⟨T54, L54, k54, n54⟩, -, X54, ⟨Lc54, hQ54, l54, y54, z54⟩, st54⟩ := X53.virtualBack hx (y := (⟨"com/example/oblate/oblate/Frame", "needsReference", "(Lcom/example/oblate/oblate/Frame;)Z"⟩ : MethodName)) (z := (⟨"com/example/oblate/oblate/Frame", "needsReference", "(Lcom/example/oblate/oblate/Frame;)Z"⟩ : MethodName)) hown (mvT hZ (hw _ (List.mem_of_getElem? (i := 13) rfl))) (mvT hZ (hw _ (List.mem_of_getElem? (i := 14) rfl))) (notFace_of_selects (args := #[]) (mvT hZ (hw _ (List.mem_of_getElem? (i := 28) rfl)))) (mvT hZ (hw _ (List.mem_of_getElem? (i := 28) rfl))) (mvT hZ (hw _ (List.mem_of_getElem? (i := 15) rfl))) (by decide) (own_back (W := 0) (rm3_10 l Z a0 hw []  A hW h0 x0 ) hZ (hw _ (List.mem_of_getElem? (i := 17) rfl)) (hw _ (List.mem_of_getElem? (i := 9) rfl)) (by decide) (by decide)) q54a q54c (g := (mkF m 43 #[.val (.int p0), .val (.int p1), .val (.int (2 : Int32)), .val (.int (0 : Int32)), .val (.int (1 : Int32))] [(.ref (A 0)), (.ref (A 4))])) rfl (by rw [hml]; rfl) (Steps.refl _) (argsL := [(.ref (A 0))]) (rest := []) (lenOf pd_2 rfl) rfl (by show 2 * 0 + _ ≤ _; exact Nat.le_of_eq rfl) (hb hby at_43) (fun _ _ => ⟨rfl, e53, (by decide : 0 + 0 ≤ _), (by decide : 0 + 0 ≤ _)⟩)
      dsimp only [Pt.U, Pt.locs, Pt.cells, Pt.slots] at X54 l54 y54 z54 st54 hQ54
      subst l54 y54 z54
      obtain ⟨rfl, N54q, e54⟩ := hQ54
      have N54 := Fr.app N53 N54q
      refine own_go (B := T54.setTop (mkF m 46 #[.val (.int p0), .val (.int p1), .val (.int (2 : Int32)), .val (.int (0 : Int32)), .val (.int (1 : Int32))] [(.int (1 : Int32))])) (fun _ k => st54.trans k) ?_
      refine own_go (B := T54.setTop (mkF m 48 #[.val (.int p0), .val (.int p1), .val (.int (2 : Int32)), .val (.int (0 : Int32)), .val (.int (1 : Int32))] [(.int (1 : Int32)), (.int (1 : Int32))])) (fun _ k => XS.iload X54.here hx rfl (hb hby at_46) rfl k) ?_
      refine own_go (B := T54.setTop (mkF m 51 #[.val (.int p0), .val (.int p1), .val (.int (2 : Int32)), .val (.int (0 : Int32)), .val (.int (1 : Int32))] [])) (fun _ k => XS.icmpNo X54.here hx rfl (hb hby at_48) rfl (by decide) k) ?_
      refine own_go (B := T54.setTop (mkF m 52 #[.val (.int p0), .val (.int p1), .val (.int (2 : Int32)), .val (.int (0 : Int32)), .val (.int (1 : Int32))] [(.int (1 : Int32))])) (fun _ k => XT.iconstV X54.here hx rfl (1 : Int32) (hb hby at_51) rfl k) ?_
      refine own_go (B := T54.setTop (mkF m 56 #[.val (.int p0), .val (.int p1), .val (.int (2 : Int32)), .val (.int (0 : Int32)), .val (.int (1 : Int32))] [(.int (1 : Int32))])) (fun _ k => XS.goto X54.here hx rfl (pc0 := 52) (pc' := 56) rfl (hb hby at_52) (by decide) (by decide) k) ?_
      exact own_ret X54 hx (t := .boolean) hrt rfl (Or.inl ⟨rfl, by simp, _, rfl⟩) (hb hby at_56) hlk ⟨rfl, N54⟩ (by decide) (by decide)
    · refine own_go (B := s₁.setTop (mkF m 15 #[.val (.int p0), .val (.int p1), .val (.int (2 : Int32)), .val (.int (1 : Int32)), .unset] [(.int (2 : Int32))])) (fun _ k => XS.iloadN X0.here hx rfl (hb hby at_14) rfl k) ?_
      obtain ⟨_, _, ⟨T55, L55, k55, n55⟩, -, X55, ⟨Lc55, hQ55, l55, y55, z55⟩, st55⟩ := Jvm.LawKit.callS X0 hx (y := (⟨"com/example/oblate/oblate/FrameNeedsReferencePinLaw", "isLocalByDoc", "(I)Z"⟩ : MethodName)) hown (mvT hZ (hw _ (List.mem_of_getElem? (i := 1) rfl))) (mvT hZ (hw _ (List.mem_of_getElem? (i := 2) rfl))) (mvT hZ (hw _ (List.mem_of_getElem? (i := 3) rfl))) (mvT hZ (hw _ (List.mem_of_getElem? (i := 4) rfl))) (by decide) (own_back (W := 0) (rm1_2 l Z a0 hw []  A hW h0 x0 ) hZ (hw _ (List.mem_of_getElem? (i := 4) rfl)) (hw _ (List.mem_of_getElem? (i := 3) rfl)) (by decide) (by decide)) (g := (mkF m 15 #[.val (.int p0), .val (.int p1), .val (.int (2 : Int32)), .val (.int (1 : Int32)), .unset] [(.int (2 : Int32))])) rfl (by rw [hml]; rfl) (argsL := [(.int (2 : Int32))]) (rest := []) (lenOf pd_0 rfl) rfl (by show 2 * 0 + _ ≤ _; exact Nat.le_of_eq rfl) (hb hby at_15) (fun _ _ => ⟨rfl, e0, (by decide : 0 + 0 ≤ _), (by decide : 0 + 0 ≤ _)⟩)
      dsimp only [Pt.U, Pt.locs, Pt.cells, Pt.slots] at X55 l55 y55 z55 st55 hQ55
      subst l55 y55 z55
      obtain ⟨rfl, N55q, e55⟩ := hQ55
      have N55 := Fr.app N0 N55q
      refine own_go (B := T55.setTop (mkF m 18 #[.val (.int p0), .val (.int p1), .val (.int (2 : Int32)), .val (.int (1 : Int32)), .unset] [(.int (1 : Int32))])) st55 ?_
      refine own_go (B := T55.setTop (mkF m 28 #[.val (.int p0), .val (.int p1), .val (.int (2 : Int32)), .val (.int (1 : Int32)), .unset] [])) (fun _ k => XS.ifYes X55.here hx rfl (pc0 := 18) (pc' := 28) rfl (hb hby at_18) rfl (by decide) (by decide) (by decide) k) ?_
      refine own_go (B := T55.setTop (mkF m 29 #[.val (.int p0), .val (.int p1), .val (.int (2 : Int32)), .val (.int (1 : Int32)), .unset] [(.int (1 : Int32))])) (fun _ k => XT.iconstV X55.here hx rfl (1 : Int32) (hb hby at_28) rfl k) ?_
      refine own_go (B := T55.setTop (mkF m 33 #[.val (.int p0), .val (.int p1), .val (.int (2 : Int32)), .val (.int (1 : Int32)), .unset] [(.int (1 : Int32))])) (fun _ k => XS.goto X55.here hx rfl (pc0 := 29) (pc' := 33) rfl (hb hby at_29) (by decide) (by decide) k) ?_
      refine own_go (B := T55.setTop (mkF m 35 #[.val (.int p0), .val (.int p1), .val (.int (2 : Int32)), .val (.int (1 : Int32)), .val (.int (1 : Int32))] [])) (fun _ k => XS.istore X55.here hx rfl (hb hby at_33) rfl (l' := #[.val (.int p0), .val (.int p1), .val (.int (2 : Int32)), .val (.int (1 : Int32)), .val (.int (1 : Int32))]) rfl k) ?_
      refine own_go (B := T55.setTop (mkF m 36 #[.val (.int p0), .val (.int p1), .val (.int (2 : Int32)), .val (.int (1 : Int32)), .val (.int (1 : Int32))] [(.int (2 : Int32))])) (fun _ k => XS.iloadN X55.here hx rfl (hb hby at_35) rfl k) ?_
      obtain ⟨_, _, ⟨T56, L56, k56, n56⟩, -, X56, ⟨Lc56, hQ56, l56, y56, z56⟩, st56⟩ := Jvm.LawKit.callS X55 hx (y := (⟨"com/example/oblate/oblate/FrameNeedsReferencePinLaw", "pick", "(I)Lcom/example/oblate/oblate/Frame;"⟩ : MethodName)) hown (mvT hZ (hw _ (List.mem_of_getElem? (i := 5) rfl))) (mvT hZ (hw _ (List.mem_of_getElem? (i := 6) rfl))) (mvT hZ (hw _ (List.mem_of_getElem? (i := 3) rfl))) (mvT hZ (hw _ (List.mem_of_getElem? (i := 7) rfl))) (by decide) (own_back (W := 0) (rm2_2 l Z a0 hw []  A hW h0 x0 ) hZ (hw _ (List.mem_of_getElem? (i := 7) rfl)) (hw _ (List.mem_of_getElem? (i := 3) rfl)) (by decide) (by decide)) (g := (mkF m 36 #[.val (.int p0), .val (.int p1), .val (.int (2 : Int32)), .val (.int (1 : Int32)), .val (.int (1 : Int32))] [(.int (2 : Int32))])) rfl (by rw [hml]; rfl) (argsL := [(.int (2 : Int32))]) (rest := []) (lenOf pd_1 rfl) rfl (by show 2 * 0 + _ ≤ _; exact Nat.le_of_eq rfl) (hb hby at_36) (fun _ _ => ⟨rfl, e55, (by decide : 0 + 0 ≤ _), (by decide : 0 + 0 ≤ _)⟩)
      dsimp only [Pt.U, Pt.locs, Pt.cells, Pt.slots] at X56 l56 y56 z56 st56 hQ56
      subst l56 y56 z56
      obtain ⟨rfl, N56q, e56⟩ := hQ56
      have N56 := Fr.app N55 N56q
      refine own_go (B := T56.setTop (mkF m 39 #[.val (.int p0), .val (.int p1), .val (.int (2 : Int32)), .val (.int (1 : Int32)), .val (.int (1 : Int32))] [(.ref (A 4))])) st56 ?_
      refine own_go (B := T56.setTop (mkF m 40 #[.val (.int p0), .val (.int p1), .val (.int (2 : Int32)), .val (.int (1 : Int32)), .val (.int (1 : Int32))] [(.int (1 : Int32)), (.ref (A 4))])) (fun _ k => XS.iloadN X56.here hx rfl (hb hby at_39) rfl k) ?_
      obtain ⟨_, _, ⟨T57, L57, k57, n57⟩, -, X57, ⟨Lc57, hQ57, l57, y57, z57⟩, st57⟩ := Jvm.LawKit.callS X56 hx (y := (⟨"com/example/oblate/oblate/FrameNeedsReferencePinLaw", "pick", "(I)Lcom/example/oblate/oblate/Frame;"⟩ : MethodName)) hown (mvT hZ (hw _ (List.mem_of_getElem? (i := 5) rfl))) (mvT hZ (hw _ (List.mem_of_getElem? (i := 6) rfl))) (mvT hZ (hw _ (List.mem_of_getElem? (i := 3) rfl))) (mvT hZ (hw _ (List.mem_of_getElem? (i := 7) rfl))) (by decide) (own_back (W := 1) (rm2_1 l Z a0 hw []  A hW h0 x0 ) hZ (hw _ (List.mem_of_getElem? (i := 7) rfl)) (hw _ (List.mem_of_getElem? (i := 3) rfl)) (by decide) (by decide)) (g := (mkF m 40 #[.val (.int p0), .val (.int p1), .val (.int (2 : Int32)), .val (.int (1 : Int32)), .val (.int (1 : Int32))] [(.int (1 : Int32)), (.ref (A 4))])) rfl (by rw [hml]; rfl) (argsL := [(.int (1 : Int32))]) (rest := [(.ref (A 4))]) (lenOf pd_1 rfl) rfl (by show 2 * 0 + _ ≤ _; exact Nat.le_of_eq rfl) (hb hby at_40) (fun _ _ => ⟨rfl, e56, (by decide : 0 + 0 ≤ _), (by decide : 0 + 0 ≤ _)⟩)
      dsimp only [Pt.U, Pt.locs, Pt.cells, Pt.slots] at X57 l57 y57 z57 st57 hQ57
      subst l57 y57 z57
      obtain ⟨rfl, N57q, e57⟩ := hQ57
      have N57 := Fr.app N56 N57q
      refine own_go (B := T57.setTop (mkF m 43 #[.val (.int p0), .val (.int p1), .val (.int (2 : Int32)), .val (.int (1 : Int32)), .val (.int (1 : Int32))] [(.ref (A 3)), (.ref (A 4))])) st57 ?_
      obtain ⟨cq58, kq58, q58a, q58b, q58c⟩ := isOf hZ e57 (E_ENU.ext x0)
      obtain ⟨_, _, ⟨T58, L58, k58, n58⟩, -, X58, ⟨Lc58, hQ58, l58, y58, z58⟩, st58⟩ := X57.virtualBack hx (y := (⟨"com/example/oblate/oblate/Frame", "needsReference", "(Lcom/example/oblate/oblate/Frame;)Z"⟩ : MethodName)) (z := (⟨"com/example/oblate/oblate/Frame", "needsReference", "(Lcom/example/oblate/oblate/Frame;)Z"⟩ : MethodName)) hown (mvT hZ (hw _ (List.mem_of_getElem? (i := 13) rfl))) (mvT hZ (hw _ (List.mem_of_getElem? (i := 14) rfl))) (notFace_of_selects (args := #[]) (mvT hZ (hw _ (List.mem_of_getElem? (i := 28) rfl)))) (mvT hZ (hw _ (List.mem_of_getElem? (i := 28) rfl))) (mvT hZ (hw _ (List.mem_of_getElem? (i := 15) rfl))) (by decide) (own_back (W := 0) (rm3_11 l Z a0 hw []  A hW h0 x0 ) hZ (hw _ (List.mem_of_getElem? (i := 17) rfl)) (hw _ (List.mem_of_getElem? (i := 9) rfl)) (by decide) (by decide)) q58a q58c (g := (mkF m 43 #[.val (.int p0), .val (.int p1), .val (.int (2 : Int32)), .val (.int (1 : Int32)), .val (.int (1 : Int32))] [(.ref (A 3)), (.ref (A 4))])) rfl (by rw [hml]; rfl) (Steps.refl _) (argsL := [(.ref (A 3))]) (rest := []) (lenOf pd_2 rfl) rfl (by show 2 * 0 + _ ≤ _; exact Nat.le_of_eq rfl) (hb hby at_43) (fun _ _ => ⟨rfl, e57, (by decide : 0 + 0 ≤ _), (by decide : 0 + 0 ≤ _)⟩)
      dsimp only [Pt.U, Pt.locs, Pt.cells, Pt.slots] at X58 l58 y58 z58 st58 hQ58
      subst l58 y58 z58
      obtain ⟨rfl, N58q, e58⟩ := hQ58
      have N58 := Fr.app N57 N58q
      refine own_go (B := T58.setTop (mkF m 46 #[.val (.int p0), .val (.int p1), .val (.int (2 : Int32)), .val (.int (1 : Int32)), .val (.int (1 : Int32))] [(.int (1 : Int32))])) (fun _ k => st58.trans k) ?_
      refine own_go (B := T58.setTop (mkF m 48 #[.val (.int p0), .val (.int p1), .val (.int (2 : Int32)), .val (.int (1 : Int32)), .val (.int (1 : Int32))] [(.int (1 : Int32)), (.int (1 : Int32))])) (fun _ k => XS.iload X58.here hx rfl (hb hby at_46) rfl k) ?_
      refine own_go (B := T58.setTop (mkF m 51 #[.val (.int p0), .val (.int p1), .val (.int (2 : Int32)), .val (.int (1 : Int32)), .val (.int (1 : Int32))] [])) (fun _ k => XS.icmpNo X58.here hx rfl (hb hby at_48) rfl (by decide) k) ?_
      refine own_go (B := T58.setTop (mkF m 52 #[.val (.int p0), .val (.int p1), .val (.int (2 : Int32)), .val (.int (1 : Int32)), .val (.int (1 : Int32))] [(.int (1 : Int32))])) (fun _ k => XT.iconstV X58.here hx rfl (1 : Int32) (hb hby at_51) rfl k) ?_
      refine own_go (B := T58.setTop (mkF m 56 #[.val (.int p0), .val (.int p1), .val (.int (2 : Int32)), .val (.int (1 : Int32)), .val (.int (1 : Int32))] [(.int (1 : Int32))])) (fun _ k => XS.goto X58.here hx rfl (pc0 := 52) (pc' := 56) rfl (hb hby at_52) (by decide) (by decide) k) ?_
      exact own_ret X58 hx (t := .boolean) hrt rfl (Or.inl ⟨rfl, by simp, _, rfl⟩) (hb hby at_56) hlk ⟨rfl, N58⟩ (by decide) (by decide)
    · refine own_go (B := s₁.setTop (mkF m 15 #[.val (.int p0), .val (.int p1), .val (.int (2 : Int32)), .val (.int (2 : Int32)), .unset] [(.int (2 : Int32))])) (fun _ k => XS.iloadN X0.here hx rfl (hb hby at_14) rfl k) ?_
      obtain ⟨_, _, ⟨T59, L59, k59, n59⟩, -, X59, ⟨Lc59, hQ59, l59, y59, z59⟩, st59⟩ := Jvm.LawKit.callS X0 hx (y := (⟨"com/example/oblate/oblate/FrameNeedsReferencePinLaw", "isLocalByDoc", "(I)Z"⟩ : MethodName)) hown (mvT hZ (hw _ (List.mem_of_getElem? (i := 1) rfl))) (mvT hZ (hw _ (List.mem_of_getElem? (i := 2) rfl))) (mvT hZ (hw _ (List.mem_of_getElem? (i := 3) rfl))) (mvT hZ (hw _ (List.mem_of_getElem? (i := 4) rfl))) (by decide) (own_back (W := 0) (rm1_2 l Z a0 hw []  A hW h0 x0 ) hZ (hw _ (List.mem_of_getElem? (i := 4) rfl)) (hw _ (List.mem_of_getElem? (i := 3) rfl)) (by decide) (by decide)) (g := (mkF m 15 #[.val (.int p0), .val (.int p1), .val (.int (2 : Int32)), .val (.int (2 : Int32)), .unset] [(.int (2 : Int32))])) rfl (by rw [hml]; rfl) (argsL := [(.int (2 : Int32))]) (rest := []) (lenOf pd_0 rfl) rfl (by show 2 * 0 + _ ≤ _; exact Nat.le_of_eq rfl) (hb hby at_15) (fun _ _ => ⟨rfl, e0, (by decide : 0 + 0 ≤ _), (by decide : 0 + 0 ≤ _)⟩)
      dsimp only [Pt.U, Pt.locs, Pt.cells, Pt.slots] at X59 l59 y59 z59 st59 hQ59
      subst l59 y59 z59
      obtain ⟨rfl, N59q, e59⟩ := hQ59
      have N59 := Fr.app N0 N59q
      refine own_go (B := T59.setTop (mkF m 18 #[.val (.int p0), .val (.int p1), .val (.int (2 : Int32)), .val (.int (2 : Int32)), .unset] [(.int (1 : Int32))])) st59 ?_
      refine own_go (B := T59.setTop (mkF m 28 #[.val (.int p0), .val (.int p1), .val (.int (2 : Int32)), .val (.int (2 : Int32)), .unset] [])) (fun _ k => XS.ifYes X59.here hx rfl (pc0 := 18) (pc' := 28) rfl (hb hby at_18) rfl (by decide) (by decide) (by decide) k) ?_
      refine own_go (B := T59.setTop (mkF m 29 #[.val (.int p0), .val (.int p1), .val (.int (2 : Int32)), .val (.int (2 : Int32)), .unset] [(.int (1 : Int32))])) (fun _ k => XT.iconstV X59.here hx rfl (1 : Int32) (hb hby at_28) rfl k) ?_
      refine own_go (B := T59.setTop (mkF m 33 #[.val (.int p0), .val (.int p1), .val (.int (2 : Int32)), .val (.int (2 : Int32)), .unset] [(.int (1 : Int32))])) (fun _ k => XS.goto X59.here hx rfl (pc0 := 29) (pc' := 33) rfl (hb hby at_29) (by decide) (by decide) k) ?_
      refine own_go (B := T59.setTop (mkF m 35 #[.val (.int p0), .val (.int p1), .val (.int (2 : Int32)), .val (.int (2 : Int32)), .val (.int (1 : Int32))] [])) (fun _ k => XS.istore X59.here hx rfl (hb hby at_33) rfl (l' := #[.val (.int p0), .val (.int p1), .val (.int (2 : Int32)), .val (.int (2 : Int32)), .val (.int (1 : Int32))]) rfl k) ?_
      refine own_go (B := T59.setTop (mkF m 36 #[.val (.int p0), .val (.int p1), .val (.int (2 : Int32)), .val (.int (2 : Int32)), .val (.int (1 : Int32))] [(.int (2 : Int32))])) (fun _ k => XS.iloadN X59.here hx rfl (hb hby at_35) rfl k) ?_
      obtain ⟨_, _, ⟨T60, L60, k60, n60⟩, -, X60, ⟨Lc60, hQ60, l60, y60, z60⟩, st60⟩ := Jvm.LawKit.callS X59 hx (y := (⟨"com/example/oblate/oblate/FrameNeedsReferencePinLaw", "pick", "(I)Lcom/example/oblate/oblate/Frame;"⟩ : MethodName)) hown (mvT hZ (hw _ (List.mem_of_getElem? (i := 5) rfl))) (mvT hZ (hw _ (List.mem_of_getElem? (i := 6) rfl))) (mvT hZ (hw _ (List.mem_of_getElem? (i := 3) rfl))) (mvT hZ (hw _ (List.mem_of_getElem? (i := 7) rfl))) (by decide) (own_back (W := 0) (rm2_2 l Z a0 hw []  A hW h0 x0 ) hZ (hw _ (List.mem_of_getElem? (i := 7) rfl)) (hw _ (List.mem_of_getElem? (i := 3) rfl)) (by decide) (by decide)) (g := (mkF m 36 #[.val (.int p0), .val (.int p1), .val (.int (2 : Int32)), .val (.int (2 : Int32)), .val (.int (1 : Int32))] [(.int (2 : Int32))])) rfl (by rw [hml]; rfl) (argsL := [(.int (2 : Int32))]) (rest := []) (lenOf pd_1 rfl) rfl (by show 2 * 0 + _ ≤ _; exact Nat.le_of_eq rfl) (hb hby at_36) (fun _ _ => ⟨rfl, e59, (by decide : 0 + 0 ≤ _), (by decide : 0 + 0 ≤ _)⟩)
      dsimp only [Pt.U, Pt.locs, Pt.cells, Pt.slots] at X60 l60 y60 z60 st60 hQ60
      subst l60 y60 z60
      obtain ⟨rfl, N60q, e60⟩ := hQ60
      have N60 := Fr.app N59 N60q
      refine own_go (B := T60.setTop (mkF m 39 #[.val (.int p0), .val (.int p1), .val (.int (2 : Int32)), .val (.int (2 : Int32)), .val (.int (1 : Int32))] [(.ref (A 4))])) st60 ?_
      refine own_go (B := T60.setTop (mkF m 40 #[.val (.int p0), .val (.int p1), .val (.int (2 : Int32)), .val (.int (2 : Int32)), .val (.int (1 : Int32))] [(.int (2 : Int32)), (.ref (A 4))])) (fun _ k => XS.iloadN X60.here hx rfl (hb hby at_39) rfl k) ?_
      obtain ⟨_, _, ⟨T61, L61, k61, n61⟩, -, X61, ⟨Lc61, hQ61, l61, y61, z61⟩, st61⟩ := Jvm.LawKit.callS X60 hx (y := (⟨"com/example/oblate/oblate/FrameNeedsReferencePinLaw", "pick", "(I)Lcom/example/oblate/oblate/Frame;"⟩ : MethodName)) hown (mvT hZ (hw _ (List.mem_of_getElem? (i := 5) rfl))) (mvT hZ (hw _ (List.mem_of_getElem? (i := 6) rfl))) (mvT hZ (hw _ (List.mem_of_getElem? (i := 3) rfl))) (mvT hZ (hw _ (List.mem_of_getElem? (i := 7) rfl))) (by decide) (own_back (W := 1) (rm2_2 l Z a0 hw []  A hW h0 x0 ) hZ (hw _ (List.mem_of_getElem? (i := 7) rfl)) (hw _ (List.mem_of_getElem? (i := 3) rfl)) (by decide) (by decide)) (g := (mkF m 40 #[.val (.int p0), .val (.int p1), .val (.int (2 : Int32)), .val (.int (2 : Int32)), .val (.int (1 : Int32))] [(.int (2 : Int32)), (.ref (A 4))])) rfl (by rw [hml]; rfl) (argsL := [(.int (2 : Int32))]) (rest := [(.ref (A 4))]) (lenOf pd_1 rfl) rfl (by show 2 * 0 + _ ≤ _; exact Nat.le_of_eq rfl) (hb hby at_40) (fun _ _ => ⟨rfl, e60, (by decide : 0 + 0 ≤ _), (by decide : 0 + 0 ≤ _)⟩)
      dsimp only [Pt.U, Pt.locs, Pt.cells, Pt.slots] at X61 l61 y61 z61 st61 hQ61
      subst l61 y61 z61
      obtain ⟨rfl, N61q, e61⟩ := hQ61
      have N61 := Fr.app N60 N61q
      refine own_go (B := T61.setTop (mkF m 43 #[.val (.int p0), .val (.int p1), .val (.int (2 : Int32)), .val (.int (2 : Int32)), .val (.int (1 : Int32))] [(.ref (A 4)), (.ref (A 4))])) st61 ?_
      obtain ⟨cq62, kq62, q62a, q62b, q62c⟩ := isOf hZ e61 (E_ENU.ext x0)
      obtain ⟨_, _, ⟨T62, L62, k62, n62⟩, -, X62, ⟨Lc62, hQ62, l62, y62, z62⟩, st62⟩ := X61.virtualBack hx (y := (⟨"com/example/oblate/oblate/Frame", "needsReference", "(Lcom/example/oblate/oblate/Frame;)Z"⟩ : MethodName)) (z := (⟨"com/example/oblate/oblate/Frame", "needsReference", "(Lcom/example/oblate/oblate/Frame;)Z"⟩ : MethodName)) hown (mvT hZ (hw _ (List.mem_of_getElem? (i := 13) rfl))) (mvT hZ (hw _ (List.mem_of_getElem? (i := 14) rfl))) (notFace_of_selects (args := #[]) (mvT hZ (hw _ (List.mem_of_getElem? (i := 28) rfl)))) (mvT hZ (hw _ (List.mem_of_getElem? (i := 28) rfl))) (mvT hZ (hw _ (List.mem_of_getElem? (i := 15) rfl))) (by decide) (own_back (W := 0) (rm3_12 l Z a0 hw []  A hW h0 x0 ) hZ (hw _ (List.mem_of_getElem? (i := 17) rfl)) (hw _ (List.mem_of_getElem? (i := 9) rfl)) (by decide) (by decide)) q62a q62c (g := (mkF m 43 #[.val (.int p0), .val (.int p1), .val (.int (2 : Int32)), .val (.int (2 : Int32)), .val (.int (1 : Int32))] [(.ref (A 4)), (.ref (A 4))])) rfl (by rw [hml]; rfl) (Steps.refl _) (argsL := [(.ref (A 4))]) (rest := []) (lenOf pd_2 rfl) rfl (by show 2 * 0 + _ ≤ _; exact Nat.le_of_eq rfl) (hb hby at_43) (fun _ _ => ⟨rfl, e61, (by decide : 0 + 0 ≤ _), (by decide : 0 + 0 ≤ _)⟩)
      dsimp only [Pt.U, Pt.locs, Pt.cells, Pt.slots] at X62 l62 y62 z62 st62 hQ62
      subst l62 y62 z62
      obtain ⟨rfl, N62q, e62⟩ := hQ62
      have N62 := Fr.app N61 N62q
      refine own_go (B := T62.setTop (mkF m 46 #[.val (.int p0), .val (.int p1), .val (.int (2 : Int32)), .val (.int (2 : Int32)), .val (.int (1 : Int32))] [(.int (1 : Int32))])) (fun _ k => st62.trans k) ?_
      refine own_go (B := T62.setTop (mkF m 48 #[.val (.int p0), .val (.int p1), .val (.int (2 : Int32)), .val (.int (2 : Int32)), .val (.int (1 : Int32))] [(.int (1 : Int32)), (.int (1 : Int32))])) (fun _ k => XS.iload X62.here hx rfl (hb hby at_46) rfl k) ?_
      refine own_go (B := T62.setTop (mkF m 51 #[.val (.int p0), .val (.int p1), .val (.int (2 : Int32)), .val (.int (2 : Int32)), .val (.int (1 : Int32))] [])) (fun _ k => XS.icmpNo X62.here hx rfl (hb hby at_48) rfl (by decide) k) ?_
      refine own_go (B := T62.setTop (mkF m 52 #[.val (.int p0), .val (.int p1), .val (.int (2 : Int32)), .val (.int (2 : Int32)), .val (.int (1 : Int32))] [(.int (1 : Int32))])) (fun _ k => XT.iconstV X62.here hx rfl (1 : Int32) (hb hby at_51) rfl k) ?_
      refine own_go (B := T62.setTop (mkF m 56 #[.val (.int p0), .val (.int p1), .val (.int (2 : Int32)), .val (.int (2 : Int32)), .val (.int (1 : Int32))] [(.int (1 : Int32))])) (fun _ k => XS.goto X62.here hx rfl (pc0 := 52) (pc' := 56) rfl (hb hby at_52) (by decide) (by decide) k) ?_
      exact own_ret X62 hx (t := .boolean) hrt rfl (Or.inl ⟨rfl, by simp, _, rfl⟩) (hb hby at_56) hlk ⟨rfl, N62⟩ (by decide) (by decide)
    · refine own_go (B := s₁.setTop (mkF m 15 #[.val (.int p0), .val (.int p1), .val (.int (2 : Int32)), .val (.int (3 : Int32)), .unset] [(.int (2 : Int32))])) (fun _ k => XS.iloadN X0.here hx rfl (hb hby at_14) rfl k) ?_
      obtain ⟨_, _, ⟨T63, L63, k63, n63⟩, -, X63, ⟨Lc63, hQ63, l63, y63, z63⟩, st63⟩ := Jvm.LawKit.callS X0 hx (y := (⟨"com/example/oblate/oblate/FrameNeedsReferencePinLaw", "isLocalByDoc", "(I)Z"⟩ : MethodName)) hown (mvT hZ (hw _ (List.mem_of_getElem? (i := 1) rfl))) (mvT hZ (hw _ (List.mem_of_getElem? (i := 2) rfl))) (mvT hZ (hw _ (List.mem_of_getElem? (i := 3) rfl))) (mvT hZ (hw _ (List.mem_of_getElem? (i := 4) rfl))) (by decide) (own_back (W := 0) (rm1_2 l Z a0 hw []  A hW h0 x0 ) hZ (hw _ (List.mem_of_getElem? (i := 4) rfl)) (hw _ (List.mem_of_getElem? (i := 3) rfl)) (by decide) (by decide)) (g := (mkF m 15 #[.val (.int p0), .val (.int p1), .val (.int (2 : Int32)), .val (.int (3 : Int32)), .unset] [(.int (2 : Int32))])) rfl (by rw [hml]; rfl) (argsL := [(.int (2 : Int32))]) (rest := []) (lenOf pd_0 rfl) rfl (by show 2 * 0 + _ ≤ _; exact Nat.le_of_eq rfl) (hb hby at_15) (fun _ _ => ⟨rfl, e0, (by decide : 0 + 0 ≤ _), (by decide : 0 + 0 ≤ _)⟩)
      dsimp only [Pt.U, Pt.locs, Pt.cells, Pt.slots] at X63 l63 y63 z63 st63 hQ63
      subst l63 y63 z63
      obtain ⟨rfl, N63q, e63⟩ := hQ63
      have N63 := Fr.app N0 N63q
      refine own_go (B := T63.setTop (mkF m 18 #[.val (.int p0), .val (.int p1), .val (.int (2 : Int32)), .val (.int (3 : Int32)), .unset] [(.int (1 : Int32))])) st63 ?_
      refine own_go (B := T63.setTop (mkF m 28 #[.val (.int p0), .val (.int p1), .val (.int (2 : Int32)), .val (.int (3 : Int32)), .unset] [])) (fun _ k => XS.ifYes X63.here hx rfl (pc0 := 18) (pc' := 28) rfl (hb hby at_18) rfl (by decide) (by decide) (by decide) k) ?_
      refine own_go (B := T63.setTop (mkF m 29 #[.val (.int p0), .val (.int p1), .val (.int (2 : Int32)), .val (.int (3 : Int32)), .unset] [(.int (1 : Int32))])) (fun _ k => XT.iconstV X63.here hx rfl (1 : Int32) (hb hby at_28) rfl k) ?_
      refine own_go (B := T63.setTop (mkF m 33 #[.val (.int p0), .val (.int p1), .val (.int (2 : Int32)), .val (.int (3 : Int32)), .unset] [(.int (1 : Int32))])) (fun _ k => XS.goto X63.here hx rfl (pc0 := 29) (pc' := 33) rfl (hb hby at_29) (by decide) (by decide) k) ?_
      refine own_go (B := T63.setTop (mkF m 35 #[.val (.int p0), .val (.int p1), .val (.int (2 : Int32)), .val (.int (3 : Int32)), .val (.int (1 : Int32))] [])) (fun _ k => XS.istore X63.here hx rfl (hb hby at_33) rfl (l' := #[.val (.int p0), .val (.int p1), .val (.int (2 : Int32)), .val (.int (3 : Int32)), .val (.int (1 : Int32))]) rfl k) ?_
      refine own_go (B := T63.setTop (mkF m 36 #[.val (.int p0), .val (.int p1), .val (.int (2 : Int32)), .val (.int (3 : Int32)), .val (.int (1 : Int32))] [(.int (2 : Int32))])) (fun _ k => XS.iloadN X63.here hx rfl (hb hby at_35) rfl k) ?_
      obtain ⟨_, _, ⟨T64, L64, k64, n64⟩, -, X64, ⟨Lc64, hQ64, l64, y64, z64⟩, st64⟩ := Jvm.LawKit.callS X63 hx (y := (⟨"com/example/oblate/oblate/FrameNeedsReferencePinLaw", "pick", "(I)Lcom/example/oblate/oblate/Frame;"⟩ : MethodName)) hown (mvT hZ (hw _ (List.mem_of_getElem? (i := 5) rfl))) (mvT hZ (hw _ (List.mem_of_getElem? (i := 6) rfl))) (mvT hZ (hw _ (List.mem_of_getElem? (i := 3) rfl))) (mvT hZ (hw _ (List.mem_of_getElem? (i := 7) rfl))) (by decide) (own_back (W := 0) (rm2_2 l Z a0 hw []  A hW h0 x0 ) hZ (hw _ (List.mem_of_getElem? (i := 7) rfl)) (hw _ (List.mem_of_getElem? (i := 3) rfl)) (by decide) (by decide)) (g := (mkF m 36 #[.val (.int p0), .val (.int p1), .val (.int (2 : Int32)), .val (.int (3 : Int32)), .val (.int (1 : Int32))] [(.int (2 : Int32))])) rfl (by rw [hml]; rfl) (argsL := [(.int (2 : Int32))]) (rest := []) (lenOf pd_1 rfl) rfl (by show 2 * 0 + _ ≤ _; exact Nat.le_of_eq rfl) (hb hby at_36) (fun _ _ => ⟨rfl, e63, (by decide : 0 + 0 ≤ _), (by decide : 0 + 0 ≤ _)⟩)
      dsimp only [Pt.U, Pt.locs, Pt.cells, Pt.slots] at X64 l64 y64 z64 st64 hQ64
      subst l64 y64 z64
      obtain ⟨rfl, N64q, e64⟩ := hQ64
      have N64 := Fr.app N63 N64q
      refine own_go (B := T64.setTop (mkF m 39 #[.val (.int p0), .val (.int p1), .val (.int (2 : Int32)), .val (.int (3 : Int32)), .val (.int (1 : Int32))] [(.ref (A 4))])) st64 ?_
      refine own_go (B := T64.setTop (mkF m 40 #[.val (.int p0), .val (.int p1), .val (.int (2 : Int32)), .val (.int (3 : Int32)), .val (.int (1 : Int32))] [(.int (3 : Int32)), (.ref (A 4))])) (fun _ k => XS.iloadN X64.here hx rfl (hb hby at_39) rfl k) ?_
      obtain ⟨_, _, ⟨T65, L65, k65, n65⟩, -, X65, ⟨Lc65, hQ65, l65, y65, z65⟩, st65⟩ := Jvm.LawKit.callS X64 hx (y := (⟨"com/example/oblate/oblate/FrameNeedsReferencePinLaw", "pick", "(I)Lcom/example/oblate/oblate/Frame;"⟩ : MethodName)) hown (mvT hZ (hw _ (List.mem_of_getElem? (i := 5) rfl))) (mvT hZ (hw _ (List.mem_of_getElem? (i := 6) rfl))) (mvT hZ (hw _ (List.mem_of_getElem? (i := 3) rfl))) (mvT hZ (hw _ (List.mem_of_getElem? (i := 7) rfl))) (by decide) (own_back (W := 1) (rm2_3 l Z a0 hw []  A hW h0 x0 ) hZ (hw _ (List.mem_of_getElem? (i := 7) rfl)) (hw _ (List.mem_of_getElem? (i := 3) rfl)) (by decide) (by decide)) (g := (mkF m 40 #[.val (.int p0), .val (.int p1), .val (.int (2 : Int32)), .val (.int (3 : Int32)), .val (.int (1 : Int32))] [(.int (3 : Int32)), (.ref (A 4))])) rfl (by rw [hml]; rfl) (argsL := [(.int (3 : Int32))]) (rest := [(.ref (A 4))]) (lenOf pd_1 rfl) rfl (by show 2 * 0 + _ ≤ _; exact Nat.le_of_eq rfl) (hb hby at_40) (fun _ _ => ⟨rfl, e64, (by decide : 0 + 0 ≤ _), (by decide : 0 + 0 ≤ _)⟩)
      dsimp only [Pt.U, Pt.locs, Pt.cells, Pt.slots] at X65 l65 y65 z65 st65 hQ65
      subst l65 y65 z65
      obtain ⟨rfl, N65q, e65⟩ := hQ65
      have N65 := Fr.app N64 N65q
      refine own_go (B := T65.setTop (mkF m 43 #[.val (.int p0), .val (.int p1), .val (.int (2 : Int32)), .val (.int (3 : Int32)), .val (.int (1 : Int32))] [(.ref (A 1)), (.ref (A 4))])) st65 ?_
      obtain ⟨cq66, kq66, q66a, q66b, q66c⟩ := isOf hZ e65 (E_ENU.ext x0)
      obtain ⟨_, _, ⟨T66, L66, k66, n66⟩, -, X66, ⟨Lc66, hQ66, l66, y66, z66⟩, st66⟩ := X65.virtualBack hx (y := (⟨"com/example/oblate/oblate/Frame", "needsReference", "(Lcom/example/oblate/oblate/Frame;)Z"⟩ : MethodName)) (z := (⟨"com/example/oblate/oblate/Frame", "needsReference", "(Lcom/example/oblate/oblate/Frame;)Z"⟩ : MethodName)) hown (mvT hZ (hw _ (List.mem_of_getElem? (i := 13) rfl))) (mvT hZ (hw _ (List.mem_of_getElem? (i := 14) rfl))) (notFace_of_selects (args := #[]) (mvT hZ (hw _ (List.mem_of_getElem? (i := 28) rfl)))) (mvT hZ (hw _ (List.mem_of_getElem? (i := 28) rfl))) (mvT hZ (hw _ (List.mem_of_getElem? (i := 15) rfl))) (by decide) (own_back (W := 0) (rm3_13 l Z a0 hw []  A hW h0 x0 ) hZ (hw _ (List.mem_of_getElem? (i := 17) rfl)) (hw _ (List.mem_of_getElem? (i := 9) rfl)) (by decide) (by decide)) q66a q66c (g := (mkF m 43 #[.val (.int p0), .val (.int p1), .val (.int (2 : Int32)), .val (.int (3 : Int32)), .val (.int (1 : Int32))] [(.ref (A 1)), (.ref (A 4))])) rfl (by rw [hml]; rfl) (Steps.refl _) (argsL := [(.ref (A 1))]) (rest := []) (lenOf pd_2 rfl) rfl (by show 2 * 0 + _ ≤ _; exact Nat.le_of_eq rfl) (hb hby at_43) (fun _ _ => ⟨rfl, e65, (by decide : 0 + 0 ≤ _), (by decide : 0 + 0 ≤ _)⟩)
      dsimp only [Pt.U, Pt.locs, Pt.cells, Pt.slots] at X66 l66 y66 z66 st66 hQ66
      subst l66 y66 z66
      obtain ⟨rfl, N66q, e66⟩ := hQ66
      have N66 := Fr.app N65 N66q
      refine own_go (B := T66.setTop (mkF m 46 #[.val (.int p0), .val (.int p1), .val (.int (2 : Int32)), .val (.int (3 : Int32)), .val (.int (1 : Int32))] [(.int (1 : Int32))])) (fun _ k => st66.trans k) ?_
      refine own_go (B := T66.setTop (mkF m 48 #[.val (.int p0), .val (.int p1), .val (.int (2 : Int32)), .val (.int (3 : Int32)), .val (.int (1 : Int32))] [(.int (1 : Int32)), (.int (1 : Int32))])) (fun _ k => XS.iload X66.here hx rfl (hb hby at_46) rfl k) ?_
      refine own_go (B := T66.setTop (mkF m 51 #[.val (.int p0), .val (.int p1), .val (.int (2 : Int32)), .val (.int (3 : Int32)), .val (.int (1 : Int32))] [])) (fun _ k => XS.icmpNo X66.here hx rfl (hb hby at_48) rfl (by decide) k) ?_
      refine own_go (B := T66.setTop (mkF m 52 #[.val (.int p0), .val (.int p1), .val (.int (2 : Int32)), .val (.int (3 : Int32)), .val (.int (1 : Int32))] [(.int (1 : Int32))])) (fun _ k => XT.iconstV X66.here hx rfl (1 : Int32) (hb hby at_51) rfl k) ?_
      refine own_go (B := T66.setTop (mkF m 56 #[.val (.int p0), .val (.int p1), .val (.int (2 : Int32)), .val (.int (3 : Int32)), .val (.int (1 : Int32))] [(.int (1 : Int32))])) (fun _ k => XS.goto X66.here hx rfl (pc0 := 52) (pc' := 56) rfl (hb hby at_52) (by decide) (by decide) k) ?_
      exact own_ret X66 hx (t := .boolean) hrt rfl (Or.inl ⟨rfl, by simp, _, rfl⟩) (hb hby at_56) hlk ⟨rfl, N66⟩ (by decide) (by decide)
    · refine own_go (B := s₁.setTop (mkF m 15 #[.val (.int p0), .val (.int p1), .val (.int (2 : Int32)), .val (.int (4 : Int32)), .unset] [(.int (2 : Int32))])) (fun _ k => XS.iloadN X0.here hx rfl (hb hby at_14) rfl k) ?_
      obtain ⟨_, _, ⟨T67, L67, k67, n67⟩, -, X67, ⟨Lc67, hQ67, l67, y67, z67⟩, st67⟩ := Jvm.LawKit.callS X0 hx (y := (⟨"com/example/oblate/oblate/FrameNeedsReferencePinLaw", "isLocalByDoc", "(I)Z"⟩ : MethodName)) hown (mvT hZ (hw _ (List.mem_of_getElem? (i := 1) rfl))) (mvT hZ (hw _ (List.mem_of_getElem? (i := 2) rfl))) (mvT hZ (hw _ (List.mem_of_getElem? (i := 3) rfl))) (mvT hZ (hw _ (List.mem_of_getElem? (i := 4) rfl))) (by decide) (own_back (W := 0) (rm1_2 l Z a0 hw []  A hW h0 x0 ) hZ (hw _ (List.mem_of_getElem? (i := 4) rfl)) (hw _ (List.mem_of_getElem? (i := 3) rfl)) (by decide) (by decide)) (g := (mkF m 15 #[.val (.int p0), .val (.int p1), .val (.int (2 : Int32)), .val (.int (4 : Int32)), .unset] [(.int (2 : Int32))])) rfl (by rw [hml]; rfl) (argsL := [(.int (2 : Int32))]) (rest := []) (lenOf pd_0 rfl) rfl (by show 2 * 0 + _ ≤ _; exact Nat.le_of_eq rfl) (hb hby at_15) (fun _ _ => ⟨rfl, e0, (by decide : 0 + 0 ≤ _), (by decide : 0 + 0 ≤ _)⟩)
      dsimp only [Pt.U, Pt.locs, Pt.cells, Pt.slots] at X67 l67 y67 z67 st67 hQ67
      subst l67 y67 z67
      obtain ⟨rfl, N67q, e67⟩ := hQ67
      have N67 := Fr.app N0 N67q
      refine own_go (B := T67.setTop (mkF m 18 #[.val (.int p0), .val (.int p1), .val (.int (2 : Int32)), .val (.int (4 : Int32)), .unset] [(.int (1 : Int32))])) st67 ?_
      refine own_go (B := T67.setTop (mkF m 28 #[.val (.int p0), .val (.int p1), .val (.int (2 : Int32)), .val (.int (4 : Int32)), .unset] [])) (fun _ k => XS.ifYes X67.here hx rfl (pc0 := 18) (pc' := 28) rfl (hb hby at_18) rfl (by decide) (by decide) (by decide) k) ?_
      refine own_go (B := T67.setTop (mkF m 29 #[.val (.int p0), .val (.int p1), .val (.int (2 : Int32)), .val (.int (4 : Int32)), .unset] [(.int (1 : Int32))])) (fun _ k => XT.iconstV X67.here hx rfl (1 : Int32) (hb hby at_28) rfl k) ?_
      refine own_go (B := T67.setTop (mkF m 33 #[.val (.int p0), .val (.int p1), .val (.int (2 : Int32)), .val (.int (4 : Int32)), .unset] [(.int (1 : Int32))])) (fun _ k => XS.goto X67.here hx rfl (pc0 := 29) (pc' := 33) rfl (hb hby at_29) (by decide) (by decide) k) ?_
      refine own_go (B := T67.setTop (mkF m 35 #[.val (.int p0), .val (.int p1), .val (.int (2 : Int32)), .val (.int (4 : Int32)), .val (.int (1 : Int32))] [])) (fun _ k => XS.istore X67.here hx rfl (hb hby at_33) rfl (l' := #[.val (.int p0), .val (.int p1), .val (.int (2 : Int32)), .val (.int (4 : Int32)), .val (.int (1 : Int32))]) rfl k) ?_
      refine own_go (B := T67.setTop (mkF m 36 #[.val (.int p0), .val (.int p1), .val (.int (2 : Int32)), .val (.int (4 : Int32)), .val (.int (1 : Int32))] [(.int (2 : Int32))])) (fun _ k => XS.iloadN X67.here hx rfl (hb hby at_35) rfl k) ?_
      obtain ⟨_, _, ⟨T68, L68, k68, n68⟩, -, X68, ⟨Lc68, hQ68, l68, y68, z68⟩, st68⟩ := Jvm.LawKit.callS X67 hx (y := (⟨"com/example/oblate/oblate/FrameNeedsReferencePinLaw", "pick", "(I)Lcom/example/oblate/oblate/Frame;"⟩ : MethodName)) hown (mvT hZ (hw _ (List.mem_of_getElem? (i := 5) rfl))) (mvT hZ (hw _ (List.mem_of_getElem? (i := 6) rfl))) (mvT hZ (hw _ (List.mem_of_getElem? (i := 3) rfl))) (mvT hZ (hw _ (List.mem_of_getElem? (i := 7) rfl))) (by decide) (own_back (W := 0) (rm2_2 l Z a0 hw []  A hW h0 x0 ) hZ (hw _ (List.mem_of_getElem? (i := 7) rfl)) (hw _ (List.mem_of_getElem? (i := 3) rfl)) (by decide) (by decide)) (g := (mkF m 36 #[.val (.int p0), .val (.int p1), .val (.int (2 : Int32)), .val (.int (4 : Int32)), .val (.int (1 : Int32))] [(.int (2 : Int32))])) rfl (by rw [hml]; rfl) (argsL := [(.int (2 : Int32))]) (rest := []) (lenOf pd_1 rfl) rfl (by show 2 * 0 + _ ≤ _; exact Nat.le_of_eq rfl) (hb hby at_36) (fun _ _ => ⟨rfl, e67, (by decide : 0 + 0 ≤ _), (by decide : 0 + 0 ≤ _)⟩)
      dsimp only [Pt.U, Pt.locs, Pt.cells, Pt.slots] at X68 l68 y68 z68 st68 hQ68
      subst l68 y68 z68
      obtain ⟨rfl, N68q, e68⟩ := hQ68
      have N68 := Fr.app N67 N68q
      refine own_go (B := T68.setTop (mkF m 39 #[.val (.int p0), .val (.int p1), .val (.int (2 : Int32)), .val (.int (4 : Int32)), .val (.int (1 : Int32))] [(.ref (A 4))])) st68 ?_
      refine own_go (B := T68.setTop (mkF m 40 #[.val (.int p0), .val (.int p1), .val (.int (2 : Int32)), .val (.int (4 : Int32)), .val (.int (1 : Int32))] [(.int (4 : Int32)), (.ref (A 4))])) (fun _ k => XS.iloadN X68.here hx rfl (hb hby at_39) rfl k) ?_
      obtain ⟨_, _, ⟨T69, L69, k69, n69⟩, -, X69, ⟨Lc69, hQ69, l69, y69, z69⟩, st69⟩ := Jvm.LawKit.callS X68 hx (y := (⟨"com/example/oblate/oblate/FrameNeedsReferencePinLaw", "pick", "(I)Lcom/example/oblate/oblate/Frame;"⟩ : MethodName)) hown (mvT hZ (hw _ (List.mem_of_getElem? (i := 5) rfl))) (mvT hZ (hw _ (List.mem_of_getElem? (i := 6) rfl))) (mvT hZ (hw _ (List.mem_of_getElem? (i := 3) rfl))) (mvT hZ (hw _ (List.mem_of_getElem? (i := 7) rfl))) (by decide) (own_back (W := 1) (rm2_4 l Z a0 hw []  A hW h0 x0 ) hZ (hw _ (List.mem_of_getElem? (i := 7) rfl)) (hw _ (List.mem_of_getElem? (i := 3) rfl)) (by decide) (by decide)) (g := (mkF m 40 #[.val (.int p0), .val (.int p1), .val (.int (2 : Int32)), .val (.int (4 : Int32)), .val (.int (1 : Int32))] [(.int (4 : Int32)), (.ref (A 4))])) rfl (by rw [hml]; rfl) (argsL := [(.int (4 : Int32))]) (rest := [(.ref (A 4))]) (lenOf pd_1 rfl) rfl (by show 2 * 0 + _ ≤ _; exact Nat.le_of_eq rfl) (hb hby at_40) (fun _ _ => ⟨rfl, e68, (by decide : 0 + 0 ≤ _), (by decide : 0 + 0 ≤ _)⟩)
      dsimp only [Pt.U, Pt.locs, Pt.cells, Pt.slots] at X69 l69 y69 z69 st69 hQ69
      subst l69 y69 z69
      obtain ⟨rfl, N69q, e69⟩ := hQ69
      have N69 := Fr.app N68 N69q
      refine own_go (B := T69.setTop (mkF m 43 #[.val (.int p0), .val (.int p1), .val (.int (2 : Int32)), .val (.int (4 : Int32)), .val (.int (1 : Int32))] [(.ref (A 2)), (.ref (A 4))])) st69 ?_
      obtain ⟨cq70, kq70, q70a, q70b, q70c⟩ := isOf hZ e69 (E_ENU.ext x0)
      obtain ⟨_, _, ⟨T70, L70, k70, n70⟩, -, X70, ⟨Lc70, hQ70, l70, y70, z70⟩, st70⟩ := X69.virtualBack hx (y := (⟨"com/example/oblate/oblate/Frame", "needsReference", "(Lcom/example/oblate/oblate/Frame;)Z"⟩ : MethodName)) (z := (⟨"com/example/oblate/oblate/Frame", "needsReference", "(Lcom/example/oblate/oblate/Frame;)Z"⟩ : MethodName)) hown (mvT hZ (hw _ (List.mem_of_getElem? (i := 13) rfl))) (mvT hZ (hw _ (List.mem_of_getElem? (i := 14) rfl))) (notFace_of_selects (args := #[]) (mvT hZ (hw _ (List.mem_of_getElem? (i := 28) rfl)))) (mvT hZ (hw _ (List.mem_of_getElem? (i := 28) rfl))) (mvT hZ (hw _ (List.mem_of_getElem? (i := 15) rfl))) (by decide) (own_back (W := 0) (rm3_14 l Z a0 hw []  A hW h0 x0 ) hZ (hw _ (List.mem_of_getElem? (i := 17) rfl)) (hw _ (List.mem_of_getElem? (i := 9) rfl)) (by decide) (by decide)) q70a q70c (g := (mkF m 43 #[.val (.int p0), .val (.int p1), .val (.int (2 : Int32)), .val (.int (4 : Int32)), .val (.int (1 : Int32))] [(.ref (A 2)), (.ref (A 4))])) rfl (by rw [hml]; rfl) (Steps.refl _) (argsL := [(.ref (A 2))]) (rest := []) (lenOf pd_2 rfl) rfl (by show 2 * 0 + _ ≤ _; exact Nat.le_of_eq rfl) (hb hby at_43) (fun _ _ => ⟨rfl, e69, (by decide : 0 + 0 ≤ _), (by decide : 0 + 0 ≤ _)⟩)
      dsimp only [Pt.U, Pt.locs, Pt.cells, Pt.slots] at X70 l70 y70 z70 st70 hQ70
      subst l70 y70 z70
      obtain ⟨rfl, N70q, e70⟩ := hQ70
      have N70 := Fr.app N69 N70q
      refine own_go (B := T70.setTop (mkF m 46 #[.val (.int p0), .val (.int p1), .val (.int (2 : Int32)), .val (.int (4 : Int32)), .val (.int (1 : Int32))] [(.int (1 : Int32))])) (fun _ k => st70.trans k) ?_
      refine own_go (B := T70.setTop (mkF m 48 #[.val (.int p0), .val (.int p1), .val (.int (2 : Int32)), .val (.int (4 : Int32)), .val (.int (1 : Int32))] [(.int (1 : Int32)), (.int (1 : Int32))])) (fun _ k => XS.iload X70.here hx rfl (hb hby at_46) rfl k) ?_
      refine own_go (B := T70.setTop (mkF m 51 #[.val (.int p0), .val (.int p1), .val (.int (2 : Int32)), .val (.int (4 : Int32)), .val (.int (1 : Int32))] [])) (fun _ k => XS.icmpNo X70.here hx rfl (hb hby at_48) rfl (by decide) k) ?_
      refine own_go (B := T70.setTop (mkF m 52 #[.val (.int p0), .val (.int p1), .val (.int (2 : Int32)), .val (.int (4 : Int32)), .val (.int (1 : Int32))] [(.int (1 : Int32))])) (fun _ k => XT.iconstV X70.here hx rfl (1 : Int32) (hb hby at_51) rfl k) ?_
      refine own_go (B := T70.setTop (mkF m 56 #[.val (.int p0), .val (.int p1), .val (.int (2 : Int32)), .val (.int (4 : Int32)), .val (.int (1 : Int32))] [(.int (1 : Int32))])) (fun _ k => XS.goto X70.here hx rfl (pc0 := 52) (pc' := 56) rfl (hb hby at_52) (by decide) (by decide) k) ?_
      exact own_ret X70 hx (t := .boolean) hrt rfl (Or.inl ⟨rfl, by simp, _, rfl⟩) (hb hby at_56) hlk ⟨rfl, N70⟩ (by decide) (by decide)
  · refine own_go (B := s₁.setTop (mkF m 8 #[.val (.int p0), .val (.int p1), .val (.int (3 : Int32)), .unset, .unset] [(.int p1)])) (fun _ k => XS.iloadN X0.here hx rfl (hb hby at_7) rfl k) ?_
    refine own_go (B := s₁.setTop (mkF m 10 #[.val (.int p0), .val (.int p1), .val (.int (3 : Int32)), .unset, .unset] [(.int (2147483647 : Int32)), (.int p1)])) (fun _ k => Jvm.Stand.ldcI X0 hx hown (mvT hZ (hw _ (List.mem_of_getElem? (i := 0) rfl))) (g := (mkF m 8 #[.val (.int p0), .val (.int p1), .val (.int (3 : Int32)), .unset, .unset] [(.int p1)])) rfl (hb hby at_8) k) ?_
    refine own_go (B := s₁.setTop (mkF m 11 #[.val (.int p0), .val (.int p1), .val (.int (3 : Int32)), .unset, .unset] [(.int (p1 &&& (2147483647 : Int32)))])) (fun _ k => XS.iand X0.here hx rfl (hb hby at_10) rfl k) ?_
    refine own_go (B := s₁.setTop (mkF m 12 #[.val (.int p0), .val (.int p1), .val (.int (3 : Int32)), .unset, .unset] [(.int (5 : Int32)), (.int (p1 &&& (2147483647 : Int32)))])) (fun _ k => XT.iconstV X0.here hx rfl (5 : Int32) (hb hby at_11) rfl k) ?_
    refine own_go (B := s₁.setTop (mkF m 13 #[.val (.int p0), .val (.int p1), .val (.int (3 : Int32)), .unset, .unset] [(.int ((p1 &&& (2147483647 : Int32)) % (5 : Int32)))])) (fun _ k => iremM (g := (mkF m 12 #[.val (.int p0), .val (.int p1), .val (.int (3 : Int32)), .unset, .unset] [(.int (5 : Int32)), (.int (p1 &&& (2147483647 : Int32)))])) X0 hx rfl (hb hby at_12) rfl (by decide) k) ?_
    refine own_go (B := s₁.setTop (mkF m 14 #[.val (.int p0), .val (.int p1), .val (.int (3 : Int32)), .val (.int ((p1 &&& (2147483647 : Int32)) % (5 : Int32))), .unset] [])) (fun _ k => XS.istoreN X0.here hx rfl (hb hby at_13) rfl (l' := #[.val (.int p0), .val (.int p1), .val (.int (3 : Int32)), .val (.int ((p1 &&& (2147483647 : Int32)) % (5 : Int32))), .unset]) rfl k) ?_
    obtain ⟨ip1, hip1⟩ : ∃ z : Int32, ((p1 &&& (2147483647 : Int32)) % (5 : Int32)) = z := ⟨_, rfl⟩
    rw [hip1]
    have hcs := own_c5 p1
    rw [hip1] at hcs
    rcases hcs with rfl | rfl | rfl | rfl | rfl
    · refine own_go (B := s₁.setTop (mkF m 15 #[.val (.int p0), .val (.int p1), .val (.int (3 : Int32)), .val (.int (0 : Int32)), .unset] [(.int (3 : Int32))])) (fun _ k => XS.iloadN X0.here hx rfl (hb hby at_14) rfl k) ?_
      obtain ⟨_, _, ⟨T71, L71, k71, n71⟩, -, X71, ⟨Lc71, hQ71, l71, y71, z71⟩, st71⟩ := Jvm.LawKit.callS X0 hx (y := (⟨"com/example/oblate/oblate/FrameNeedsReferencePinLaw", "isLocalByDoc", "(I)Z"⟩ : MethodName)) hown (mvT hZ (hw _ (List.mem_of_getElem? (i := 1) rfl))) (mvT hZ (hw _ (List.mem_of_getElem? (i := 2) rfl))) (mvT hZ (hw _ (List.mem_of_getElem? (i := 3) rfl))) (mvT hZ (hw _ (List.mem_of_getElem? (i := 4) rfl))) (by decide) (own_back (W := 0) (rm1_3 l Z a0 hw []  A hW h0 x0 ) hZ (hw _ (List.mem_of_getElem? (i := 4) rfl)) (hw _ (List.mem_of_getElem? (i := 3) rfl)) (by decide) (by decide)) (g := (mkF m 15 #[.val (.int p0), .val (.int p1), .val (.int (3 : Int32)), .val (.int (0 : Int32)), .unset] [(.int (3 : Int32))])) rfl (by rw [hml]; rfl) (argsL := [(.int (3 : Int32))]) (rest := []) (lenOf pd_0 rfl) rfl (by show 2 * 0 + _ ≤ _; exact Nat.le_of_eq rfl) (hb hby at_15) (fun _ _ => ⟨rfl, e0, (by decide : 0 + 0 ≤ _), (by decide : 0 + 0 ≤ _)⟩)
      dsimp only [Pt.U, Pt.locs, Pt.cells, Pt.slots] at X71 l71 y71 z71 st71 hQ71
      subst l71 y71 z71
      obtain ⟨rfl, N71q, e71⟩ := hQ71
      have N71 := Fr.app N0 N71q
      refine own_go (B := T71.setTop (mkF m 18 #[.val (.int p0), .val (.int p1), .val (.int (3 : Int32)), .val (.int (0 : Int32)), .unset] [(.int (1 : Int32))])) st71 ?_
      refine own_go (B := T71.setTop (mkF m 28 #[.val (.int p0), .val (.int p1), .val (.int (3 : Int32)), .val (.int (0 : Int32)), .unset] [])) (fun _ k => XS.ifYes X71.here hx rfl (pc0 := 18) (pc' := 28) rfl (hb hby at_18) rfl (by decide) (by decide) (by decide) k) ?_
      refine own_go (B := T71.setTop (mkF m 29 #[.val (.int p0), .val (.int p1), .val (.int (3 : Int32)), .val (.int (0 : Int32)), .unset] [(.int (1 : Int32))])) (fun _ k => XT.iconstV X71.here hx rfl (1 : Int32) (hb hby at_28) rfl k) ?_
      refine own_go (B := T71.setTop (mkF m 33 #[.val (.int p0), .val (.int p1), .val (.int (3 : Int32)), .val (.int (0 : Int32)), .unset] [(.int (1 : Int32))])) (fun _ k => XS.goto X71.here hx rfl (pc0 := 29) (pc' := 33) rfl (hb hby at_29) (by decide) (by decide) k) ?_
      refine own_go (B := T71.setTop (mkF m 35 #[.val (.int p0), .val (.int p1), .val (.int (3 : Int32)), .val (.int (0 : Int32)), .val (.int (1 : Int32))] [])) (fun _ k => XS.istore X71.here hx rfl (hb hby at_33) rfl (l' := #[.val (.int p0), .val (.int p1), .val (.int (3 : Int32)), .val (.int (0 : Int32)), .val (.int (1 : Int32))]) rfl k) ?_
      refine own_go (B := T71.setTop (mkF m 36 #[.val (.int p0), .val (.int p1), .val (.int (3 : Int32)), .val (.int (0 : Int32)), .val (.int (1 : Int32))] [(.int (3 : Int32))])) (fun _ k => XS.iloadN X71.here hx rfl (hb hby at_35) rfl k) ?_
      obtain ⟨_, _, ⟨T72, L72, k72, n72⟩, -, X72, ⟨Lc72, hQ72, l72, y72, z72⟩, st72⟩ := Jvm.LawKit.callS X71 hx (y := (⟨"com/example/oblate/oblate/FrameNeedsReferencePinLaw", "pick", "(I)Lcom/example/oblate/oblate/Frame;"⟩ : MethodName)) hown (mvT hZ (hw _ (List.mem_of_getElem? (i := 5) rfl))) (mvT hZ (hw _ (List.mem_of_getElem? (i := 6) rfl))) (mvT hZ (hw _ (List.mem_of_getElem? (i := 3) rfl))) (mvT hZ (hw _ (List.mem_of_getElem? (i := 7) rfl))) (by decide) (own_back (W := 0) (rm2_3 l Z a0 hw []  A hW h0 x0 ) hZ (hw _ (List.mem_of_getElem? (i := 7) rfl)) (hw _ (List.mem_of_getElem? (i := 3) rfl)) (by decide) (by decide)) (g := (mkF m 36 #[.val (.int p0), .val (.int p1), .val (.int (3 : Int32)), .val (.int (0 : Int32)), .val (.int (1 : Int32))] [(.int (3 : Int32))])) rfl (by rw [hml]; rfl) (argsL := [(.int (3 : Int32))]) (rest := []) (lenOf pd_1 rfl) rfl (by show 2 * 0 + _ ≤ _; exact Nat.le_of_eq rfl) (hb hby at_36) (fun _ _ => ⟨rfl, e71, (by decide : 0 + 0 ≤ _), (by decide : 0 + 0 ≤ _)⟩)
      dsimp only [Pt.U, Pt.locs, Pt.cells, Pt.slots] at X72 l72 y72 z72 st72 hQ72
      subst l72 y72 z72
      obtain ⟨rfl, N72q, e72⟩ := hQ72
      have N72 := Fr.app N71 N72q
      refine own_go (B := T72.setTop (mkF m 39 #[.val (.int p0), .val (.int p1), .val (.int (3 : Int32)), .val (.int (0 : Int32)), .val (.int (1 : Int32))] [(.ref (A 1))])) st72 ?_
      refine own_go (B := T72.setTop (mkF m 40 #[.val (.int p0), .val (.int p1), .val (.int (3 : Int32)), .val (.int (0 : Int32)), .val (.int (1 : Int32))] [(.int (0 : Int32)), (.ref (A 1))])) (fun _ k => XS.iloadN X72.here hx rfl (hb hby at_39) rfl k) ?_
      obtain ⟨_, _, ⟨T73, L73, k73, n73⟩, -, X73, ⟨Lc73, hQ73, l73, y73, z73⟩, st73⟩ := Jvm.LawKit.callS X72 hx (y := (⟨"com/example/oblate/oblate/FrameNeedsReferencePinLaw", "pick", "(I)Lcom/example/oblate/oblate/Frame;"⟩ : MethodName)) hown (mvT hZ (hw _ (List.mem_of_getElem? (i := 5) rfl))) (mvT hZ (hw _ (List.mem_of_getElem? (i := 6) rfl))) (mvT hZ (hw _ (List.mem_of_getElem? (i := 3) rfl))) (mvT hZ (hw _ (List.mem_of_getElem? (i := 7) rfl))) (by decide) (own_back (W := 1) (rm2_0 l Z a0 hw []  A hW h0 x0 ) hZ (hw _ (List.mem_of_getElem? (i := 7) rfl)) (hw _ (List.mem_of_getElem? (i := 3) rfl)) (by decide) (by decide)) (g := (mkF m 40 #[.val (.int p0), .val (.int p1), .val (.int (3 : Int32)), .val (.int (0 : Int32)), .val (.int (1 : Int32))] [(.int (0 : Int32)), (.ref (A 1))])) rfl (by rw [hml]; rfl) (argsL := [(.int (0 : Int32))]) (rest := [(.ref (A 1))]) (lenOf pd_1 rfl) rfl (by show 2 * 0 + _ ≤ _; exact Nat.le_of_eq rfl) (hb hby at_40) (fun _ _ => ⟨rfl, e72, (by decide : 0 + 0 ≤ _), (by decide : 0 + 0 ≤ _)⟩)
      dsimp only [Pt.U, Pt.locs, Pt.cells, Pt.slots] at X73 l73 y73 z73 st73 hQ73
      subst l73 y73 z73
      obtain ⟨rfl, N73q, e73⟩ := hQ73
      have N73 := Fr.app N72 N73q
      refine own_go (B := T73.setTop (mkF m 43 #[.val (.int p0), .val (.int p1), .val (.int (3 : Int32)), .val (.int (0 : Int32)), .val (.int (1 : Int32))] [(.ref (A 0)), (.ref (A 1))])) st73 ?_
      obtain ⟨cq74, kq74, q74a, q74b, q74c⟩ := isOf hZ e73 (E_NED.ext x0)
      obtain ⟨_, _, ⟨T74, L74, k74, n74⟩, -, X74, ⟨Lc74, hQ74, l74, y74, z74⟩, st74⟩ := X73.virtualBack hx (y := (⟨"com/example/oblate/oblate/Frame", "needsReference", "(Lcom/example/oblate/oblate/Frame;)Z"⟩ : MethodName)) (z := (⟨"com/example/oblate/oblate/Frame", "needsReference", "(Lcom/example/oblate/oblate/Frame;)Z"⟩ : MethodName)) hown (mvT hZ (hw _ (List.mem_of_getElem? (i := 13) rfl))) (mvT hZ (hw _ (List.mem_of_getElem? (i := 14) rfl))) (notFace_of_selects (args := #[]) (mvT hZ (hw _ (List.mem_of_getElem? (i := 27) rfl)))) (mvT hZ (hw _ (List.mem_of_getElem? (i := 27) rfl))) (mvT hZ (hw _ (List.mem_of_getElem? (i := 15) rfl))) (by decide) (own_back (W := 0) (rm3_15 l Z a0 hw []  A hW h0 x0 ) hZ (hw _ (List.mem_of_getElem? (i := 17) rfl)) (hw _ (List.mem_of_getElem? (i := 9) rfl)) (by decide) (by decide)) q74a q74c (g := (mkF m 43 #[.val (.int p0), .val (.int p1), .val (.int (3 : Int32)), .val (.int (0 : Int32)), .val (.int (1 : Int32))] [(.ref (A 0)), (.ref (A 1))])) rfl (by rw [hml]; rfl) (Steps.refl _) (argsL := [(.ref (A 0))]) (rest := []) (lenOf pd_2 rfl) rfl (by show 2 * 0 + _ ≤ _; exact Nat.le_of_eq rfl) (hb hby at_43) (fun _ _ => ⟨rfl, e73, (by decide : 0 + 0 ≤ _), (by decide : 0 + 0 ≤ _)⟩)
      dsimp only [Pt.U, Pt.locs, Pt.cells, Pt.slots] at X74 l74 y74 z74 st74 hQ74
      subst l74 y74 z74
      obtain ⟨rfl, N74q, e74⟩ := hQ74
      have N74 := Fr.app N73 N74q
      refine own_go (B := T74.setTop (mkF m 46 #[.val (.int p0), .val (.int p1), .val (.int (3 : Int32)), .val (.int (0 : Int32)), .val (.int (1 : Int32))] [(.int (1 : Int32))])) (fun _ k => st74.trans k) ?_
      refine own_go (B := T74.setTop (mkF m 48 #[.val (.int p0), .val (.int p1), .val (.int (3 : Int32)), .val (.int (0 : Int32)), .val (.int (1 : Int32))] [(.int (1 : Int32)), (.int (1 : Int32))])) (fun _ k => XS.iload X74.here hx rfl (hb hby at_46) rfl k) ?_
      refine own_go (B := T74.setTop (mkF m 51 #[.val (.int p0), .val (.int p1), .val (.int (3 : Int32)), .val (.int (0 : Int32)), .val (.int (1 : Int32))] [])) (fun _ k => XS.icmpNo X74.here hx rfl (hb hby at_48) rfl (by decide) k) ?_
      refine own_go (B := T74.setTop (mkF m 52 #[.val (.int p0), .val (.int p1), .val (.int (3 : Int32)), .val (.int (0 : Int32)), .val (.int (1 : Int32))] [(.int (1 : Int32))])) (fun _ k => XT.iconstV X74.here hx rfl (1 : Int32) (hb hby at_51) rfl k) ?_
      refine own_go (B := T74.setTop (mkF m 56 #[.val (.int p0), .val (.int p1), .val (.int (3 : Int32)), .val (.int (0 : Int32)), .val (.int (1 : Int32))] [(.int (1 : Int32))])) (fun _ k => XS.goto X74.here hx rfl (pc0 := 52) (pc' := 56) rfl (hb hby at_52) (by decide) (by decide) k) ?_
      exact own_ret X74 hx (t := .boolean) hrt rfl (Or.inl ⟨rfl, by simp, _, rfl⟩) (hb hby at_56) hlk ⟨rfl, N74⟩ (by decide) (by decide)
    · refine own_go (B := s₁.setTop (mkF m 15 #[.val (.int p0), .val (.int p1), .val (.int (3 : Int32)), .val (.int (1 : Int32)), .unset] [(.int (3 : Int32))])) (fun _ k => XS.iloadN X0.here hx rfl (hb hby at_14) rfl k) ?_
      obtain ⟨_, _, ⟨T75, L75, k75, n75⟩, -, X75, ⟨Lc75, hQ75, l75, y75, z75⟩, st75⟩ := Jvm.LawKit.callS X0 hx (y := (⟨"com/example/oblate/oblate/FrameNeedsReferencePinLaw", "isLocalByDoc", "(I)Z"⟩ : MethodName)) hown (mvT hZ (hw _ (List.mem_of_getElem? (i := 1) rfl))) (mvT hZ (hw _ (List.mem_of_getElem? (i := 2) rfl))) (mvT hZ (hw _ (List.mem_of_getElem? (i := 3) rfl))) (mvT hZ (hw _ (List.mem_of_getElem? (i := 4) rfl))) (by decide) (own_back (W := 0) (rm1_3 l Z a0 hw []  A hW h0 x0 ) hZ (hw _ (List.mem_of_getElem? (i := 4) rfl)) (hw _ (List.mem_of_getElem? (i := 3) rfl)) (by decide) (by decide)) (g := (mkF m 15 #[.val (.int p0), .val (.int p1), .val (.int (3 : Int32)), .val (.int (1 : Int32)), .unset] [(.int (3 : Int32))])) rfl (by rw [hml]; rfl) (argsL := [(.int (3 : Int32))]) (rest := []) (lenOf pd_0 rfl) rfl (by show 2 * 0 + _ ≤ _; exact Nat.le_of_eq rfl) (hb hby at_15) (fun _ _ => ⟨rfl, e0, (by decide : 0 + 0 ≤ _), (by decide : 0 + 0 ≤ _)⟩)
      dsimp only [Pt.U, Pt.locs, Pt.cells, Pt.slots] at X75 l75 y75 z75 st75 hQ75
      subst l75 y75 z75
      obtain ⟨rfl, N75q, e75⟩ := hQ75
      have N75 := Fr.app N0 N75q
      refine own_go (B := T75.setTop (mkF m 18 #[.val (.int p0), .val (.int p1), .val (.int (3 : Int32)), .val (.int (1 : Int32)), .unset] [(.int (1 : Int32))])) st75 ?_
      refine own_go (B := T75.setTop (mkF m 28 #[.val (.int p0), .val (.int p1), .val (.int (3 : Int32)), .val (.int (1 : Int32)), .unset] [])) (fun _ k => XS.ifYes X75.here hx rfl (pc0 := 18) (pc' := 28) rfl (hb hby at_18) rfl (by decide) (by decide) (by decide) k) ?_
      refine own_go (B := T75.setTop (mkF m 29 #[.val (.int p0), .val (.int p1), .val (.int (3 : Int32)), .val (.int (1 : Int32)), .unset] [(.int (1 : Int32))])) (fun _ k => XT.iconstV X75.here hx rfl (1 : Int32) (hb hby at_28) rfl k) ?_
      refine own_go (B := T75.setTop (mkF m 33 #[.val (.int p0), .val (.int p1), .val (.int (3 : Int32)), .val (.int (1 : Int32)), .unset] [(.int (1 : Int32))])) (fun _ k => XS.goto X75.here hx rfl (pc0 := 29) (pc' := 33) rfl (hb hby at_29) (by decide) (by decide) k) ?_
      refine own_go (B := T75.setTop (mkF m 35 #[.val (.int p0), .val (.int p1), .val (.int (3 : Int32)), .val (.int (1 : Int32)), .val (.int (1 : Int32))] [])) (fun _ k => XS.istore X75.here hx rfl (hb hby at_33) rfl (l' := #[.val (.int p0), .val (.int p1), .val (.int (3 : Int32)), .val (.int (1 : Int32)), .val (.int (1 : Int32))]) rfl k) ?_
      refine own_go (B := T75.setTop (mkF m 36 #[.val (.int p0), .val (.int p1), .val (.int (3 : Int32)), .val (.int (1 : Int32)), .val (.int (1 : Int32))] [(.int (3 : Int32))])) (fun _ k => XS.iloadN X75.here hx rfl (hb hby at_35) rfl k) ?_
      obtain ⟨_, _, ⟨T76, L76, k76, n76⟩, -, X76, ⟨Lc76, hQ76, l76, y76, z76⟩, st76⟩ := Jvm.LawKit.callS X75 hx (y := (⟨"com/example/oblate/oblate/FrameNeedsReferencePinLaw", "pick", "(I)Lcom/example/oblate/oblate/Frame;"⟩ : MethodName)) hown (mvT hZ (hw _ (List.mem_of_getElem? (i := 5) rfl))) (mvT hZ (hw _ (List.mem_of_getElem? (i := 6) rfl))) (mvT hZ (hw _ (List.mem_of_getElem? (i := 3) rfl))) (mvT hZ (hw _ (List.mem_of_getElem? (i := 7) rfl))) (by decide) (own_back (W := 0) (rm2_3 l Z a0 hw []  A hW h0 x0 ) hZ (hw _ (List.mem_of_getElem? (i := 7) rfl)) (hw _ (List.mem_of_getElem? (i := 3) rfl)) (by decide) (by decide)) (g := (mkF m 36 #[.val (.int p0), .val (.int p1), .val (.int (3 : Int32)), .val (.int (1 : Int32)), .val (.int (1 : Int32))] [(.int (3 : Int32))])) rfl (by rw [hml]; rfl) (argsL := [(.int (3 : Int32))]) (rest := []) (lenOf pd_1 rfl) rfl (by show 2 * 0 + _ ≤ _; exact Nat.le_of_eq rfl) (hb hby at_36) (fun _ _ => ⟨rfl, e75, (by decide : 0 + 0 ≤ _), (by decide : 0 + 0 ≤ _)⟩)
      dsimp only [Pt.U, Pt.locs, Pt.cells, Pt.slots] at X76 l76 y76 z76 st76 hQ76
      subst l76 y76 z76
      obtain ⟨rfl, N76q, e76⟩ := hQ76
      have N76 := Fr.app N75 N76q
      refine own_go (B := T76.setTop (mkF m 39 #[.val (.int p0), .val (.int p1), .val (.int (3 : Int32)), .val (.int (1 : Int32)), .val (.int (1 : Int32))] [(.ref (A 1))])) st76 ?_
      refine own_go (B := T76.setTop (mkF m 40 #[.val (.int p0), .val (.int p1), .val (.int (3 : Int32)), .val (.int (1 : Int32)), .val (.int (1 : Int32))] [(.int (1 : Int32)), (.ref (A 1))])) (fun _ k => XS.iloadN X76.here hx rfl (hb hby at_39) rfl k) ?_
      obtain ⟨_, _, ⟨T77, L77, k77, n77⟩, -, X77, ⟨Lc77, hQ77, l77, y77, z77⟩, st77⟩ := Jvm.LawKit.callS X76 hx (y := (⟨"com/example/oblate/oblate/FrameNeedsReferencePinLaw", "pick", "(I)Lcom/example/oblate/oblate/Frame;"⟩ : MethodName)) hown (mvT hZ (hw _ (List.mem_of_getElem? (i := 5) rfl))) (mvT hZ (hw _ (List.mem_of_getElem? (i := 6) rfl))) (mvT hZ (hw _ (List.mem_of_getElem? (i := 3) rfl))) (mvT hZ (hw _ (List.mem_of_getElem? (i := 7) rfl))) (by decide) (own_back (W := 1) (rm2_1 l Z a0 hw []  A hW h0 x0 ) hZ (hw _ (List.mem_of_getElem? (i := 7) rfl)) (hw _ (List.mem_of_getElem? (i := 3) rfl)) (by decide) (by decide)) (g := (mkF m 40 #[.val (.int p0), .val (.int p1), .val (.int (3 : Int32)), .val (.int (1 : Int32)), .val (.int (1 : Int32))] [(.int (1 : Int32)), (.ref (A 1))])) rfl (by rw [hml]; rfl) (argsL := [(.int (1 : Int32))]) (rest := [(.ref (A 1))]) (lenOf pd_1 rfl) rfl (by show 2 * 0 + _ ≤ _; exact Nat.le_of_eq rfl) (hb hby at_40) (fun _ _ => ⟨rfl, e76, (by decide : 0 + 0 ≤ _), (by decide : 0 + 0 ≤ _)⟩)
      dsimp only [Pt.U, Pt.locs, Pt.cells, Pt.slots] at X77 l77 y77 z77 st77 hQ77
      subst l77 y77 z77
      obtain ⟨rfl, N77q, e77⟩ := hQ77
      have N77 := Fr.app N76 N77q
      refine own_go (B := T77.setTop (mkF m 43 #[.val (.int p0), .val (.int p1), .val (.int (3 : Int32)), .val (.int (1 : Int32)), .val (.int (1 : Int32))] [(.ref (A 3)), (.ref (A 1))])) st77 ?_
      obtain ⟨cq78, kq78, q78a, q78b, q78c⟩ := isOf hZ e77 (E_NED.ext x0)
      obtain ⟨_, _, ⟨T78, L78, k78, n78⟩, -, X78, ⟨Lc78, hQ78, l78, y78, z78⟩, st78⟩ := X77.virtualBack hx (y := (⟨"com/example/oblate/oblate/Frame", "needsReference", "(Lcom/example/oblate/oblate/Frame;)Z"⟩ : MethodName)) (z := (⟨"com/example/oblate/oblate/Frame", "needsReference", "(Lcom/example/oblate/oblate/Frame;)Z"⟩ : MethodName)) hown (mvT hZ (hw _ (List.mem_of_getElem? (i := 13) rfl))) (mvT hZ (hw _ (List.mem_of_getElem? (i := 14) rfl))) (notFace_of_selects (args := #[]) (mvT hZ (hw _ (List.mem_of_getElem? (i := 27) rfl)))) (mvT hZ (hw _ (List.mem_of_getElem? (i := 27) rfl))) (mvT hZ (hw _ (List.mem_of_getElem? (i := 15) rfl))) (by decide) (own_back (W := 0) (rm3_16 l Z a0 hw []  A hW h0 x0 ) hZ (hw _ (List.mem_of_getElem? (i := 17) rfl)) (hw _ (List.mem_of_getElem? (i := 9) rfl)) (by decide) (by decide)) q78a q78c (g := (mkF m 43 #[.val (.int p0), .val (.int p1), .val (.int (3 : Int32)), .val (.int (1 : Int32)), .val (.int (1 : Int32))] [(.ref (A 3)), (.ref (A 1))])) rfl (by rw [hml]; rfl) (Steps.refl _) (argsL := [(.ref (A 3))]) (rest := []) (lenOf pd_2 rfl) rfl (by show 2 * 0 + _ ≤ _; exact Nat.le_of_eq rfl) (hb hby at_43) (fun _ _ => ⟨rfl, e77, (by decide : 0 + 0 ≤ _), (by decide : 0 + 0 ≤ _)⟩)
      dsimp only [Pt.U, Pt.locs, Pt.cells, Pt.slots] at X78 l78 y78 z78 st78 hQ78
      subst l78 y78 z78
      obtain ⟨rfl, N78q, e78⟩ := hQ78
      have N78 := Fr.app N77 N78q
      refine own_go (B := T78.setTop (mkF m 46 #[.val (.int p0), .val (.int p1), .val (.int (3 : Int32)), .val (.int (1 : Int32)), .val (.int (1 : Int32))] [(.int (1 : Int32))])) (fun _ k => st78.trans k) ?_
      refine own_go (B := T78.setTop (mkF m 48 #[.val (.int p0), .val (.int p1), .val (.int (3 : Int32)), .val (.int (1 : Int32)), .val (.int (1 : Int32))] [(.int (1 : Int32)), (.int (1 : Int32))])) (fun _ k => XS.iload X78.here hx rfl (hb hby at_46) rfl k) ?_
      refine own_go (B := T78.setTop (mkF m 51 #[.val (.int p0), .val (.int p1), .val (.int (3 : Int32)), .val (.int (1 : Int32)), .val (.int (1 : Int32))] [])) (fun _ k => XS.icmpNo X78.here hx rfl (hb hby at_48) rfl (by decide) k) ?_
      refine own_go (B := T78.setTop (mkF m 52 #[.val (.int p0), .val (.int p1), .val (.int (3 : Int32)), .val (.int (1 : Int32)), .val (.int (1 : Int32))] [(.int (1 : Int32))])) (fun _ k => XT.iconstV X78.here hx rfl (1 : Int32) (hb hby at_51) rfl k) ?_
      refine own_go (B := T78.setTop (mkF m 56 #[.val (.int p0), .val (.int p1), .val (.int (3 : Int32)), .val (.int (1 : Int32)), .val (.int (1 : Int32))] [(.int (1 : Int32))])) (fun _ k => XS.goto X78.here hx rfl (pc0 := 52) (pc' := 56) rfl (hb hby at_52) (by decide) (by decide) k) ?_
      exact own_ret X78 hx (t := .boolean) hrt rfl (Or.inl ⟨rfl, by simp, _, rfl⟩) (hb hby at_56) hlk ⟨rfl, N78⟩ (by decide) (by decide)
    · refine own_go (B := s₁.setTop (mkF m 15 #[.val (.int p0), .val (.int p1), .val (.int (3 : Int32)), .val (.int (2 : Int32)), .unset] [(.int (3 : Int32))])) (fun _ k => XS.iloadN X0.here hx rfl (hb hby at_14) rfl k) ?_
      obtain ⟨_, _, ⟨T79, L79, k79, n79⟩, -, X79, ⟨Lc79, hQ79, l79, y79, z79⟩, st79⟩ := Jvm.LawKit.callS X0 hx (y := (⟨"com/example/oblate/oblate/FrameNeedsReferencePinLaw", "isLocalByDoc", "(I)Z"⟩ : MethodName)) hown (mvT hZ (hw _ (List.mem_of_getElem? (i := 1) rfl))) (mvT hZ (hw _ (List.mem_of_getElem? (i := 2) rfl))) (mvT hZ (hw _ (List.mem_of_getElem? (i := 3) rfl))) (mvT hZ (hw _ (List.mem_of_getElem? (i := 4) rfl))) (by decide) (own_back (W := 0) (rm1_3 l Z a0 hw []  A hW h0 x0 ) hZ (hw _ (List.mem_of_getElem? (i := 4) rfl)) (hw _ (List.mem_of_getElem? (i := 3) rfl)) (by decide) (by decide)) (g := (mkF m 15 #[.val (.int p0), .val (.int p1), .val (.int (3 : Int32)), .val (.int (2 : Int32)), .unset] [(.int (3 : Int32))])) rfl (by rw [hml]; rfl) (argsL := [(.int (3 : Int32))]) (rest := []) (lenOf pd_0 rfl) rfl (by show 2 * 0 + _ ≤ _; exact Nat.le_of_eq rfl) (hb hby at_15) (fun _ _ => ⟨rfl, e0, (by decide : 0 + 0 ≤ _), (by decide : 0 + 0 ≤ _)⟩)
      dsimp only [Pt.U, Pt.locs, Pt.cells, Pt.slots] at X79 l79 y79 z79 st79 hQ79
      subst l79 y79 z79
      obtain ⟨rfl, N79q, e79⟩ := hQ79
      have N79 := Fr.app N0 N79q
      refine own_go (B := T79.setTop (mkF m 18 #[.val (.int p0), .val (.int p1), .val (.int (3 : Int32)), .val (.int (2 : Int32)), .unset] [(.int (1 : Int32))])) st79 ?_
      refine own_go (B := T79.setTop (mkF m 28 #[.val (.int p0), .val (.int p1), .val (.int (3 : Int32)), .val (.int (2 : Int32)), .unset] [])) (fun _ k => XS.ifYes X79.here hx rfl (pc0 := 18) (pc' := 28) rfl (hb hby at_18) rfl (by decide) (by decide) (by decide) k) ?_
      refine own_go (B := T79.setTop (mkF m 29 #[.val (.int p0), .val (.int p1), .val (.int (3 : Int32)), .val (.int (2 : Int32)), .unset] [(.int (1 : Int32))])) (fun _ k => XT.iconstV X79.here hx rfl (1 : Int32) (hb hby at_28) rfl k) ?_
      refine own_go (B := T79.setTop (mkF m 33 #[.val (.int p0), .val (.int p1), .val (.int (3 : Int32)), .val (.int (2 : Int32)), .unset] [(.int (1 : Int32))])) (fun _ k => XS.goto X79.here hx rfl (pc0 := 29) (pc' := 33) rfl (hb hby at_29) (by decide) (by decide) k) ?_
      refine own_go (B := T79.setTop (mkF m 35 #[.val (.int p0), .val (.int p1), .val (.int (3 : Int32)), .val (.int (2 : Int32)), .val (.int (1 : Int32))] [])) (fun _ k => XS.istore X79.here hx rfl (hb hby at_33) rfl (l' := #[.val (.int p0), .val (.int p1), .val (.int (3 : Int32)), .val (.int (2 : Int32)), .val (.int (1 : Int32))]) rfl k) ?_
      refine own_go (B := T79.setTop (mkF m 36 #[.val (.int p0), .val (.int p1), .val (.int (3 : Int32)), .val (.int (2 : Int32)), .val (.int (1 : Int32))] [(.int (3 : Int32))])) (fun _ k => XS.iloadN X79.here hx rfl (hb hby at_35) rfl k) ?_
      obtain ⟨_, _, ⟨T80, L80, k80, n80⟩, -, X80, ⟨Lc80, hQ80, l80, y80, z80⟩, st80⟩ := Jvm.LawKit.callS X79 hx (y := (⟨"com/example/oblate/oblate/FrameNeedsReferencePinLaw", "pick", "(I)Lcom/example/oblate/oblate/Frame;"⟩ : MethodName)) hown (mvT hZ (hw _ (List.mem_of_getElem? (i := 5) rfl))) (mvT hZ (hw _ (List.mem_of_getElem? (i := 6) rfl))) (mvT hZ (hw _ (List.mem_of_getElem? (i := 3) rfl))) (mvT hZ (hw _ (List.mem_of_getElem? (i := 7) rfl))) (by decide) (own_back (W := 0) (rm2_3 l Z a0 hw []  A hW h0 x0 ) hZ (hw _ (List.mem_of_getElem? (i := 7) rfl)) (hw _ (List.mem_of_getElem? (i := 3) rfl)) (by decide) (by decide)) (g := (mkF m 36 #[.val (.int p0), .val (.int p1), .val (.int (3 : Int32)), .val (.int (2 : Int32)), .val (.int (1 : Int32))] [(.int (3 : Int32))])) rfl (by rw [hml]; rfl) (argsL := [(.int (3 : Int32))]) (rest := []) (lenOf pd_1 rfl) rfl (by show 2 * 0 + _ ≤ _; exact Nat.le_of_eq rfl) (hb hby at_36) (fun _ _ => ⟨rfl, e79, (by decide : 0 + 0 ≤ _), (by decide : 0 + 0 ≤ _)⟩)
      dsimp only [Pt.U, Pt.locs, Pt.cells, Pt.slots] at X80 l80 y80 z80 st80 hQ80
      subst l80 y80 z80
      obtain ⟨rfl, N80q, e80⟩ := hQ80
      have N80 := Fr.app N79 N80q
      refine own_go (B := T80.setTop (mkF m 39 #[.val (.int p0), .val (.int p1), .val (.int (3 : Int32)), .val (.int (2 : Int32)), .val (.int (1 : Int32))] [(.ref (A 1))])) st80 ?_
      refine own_go (B := T80.setTop (mkF m 40 #[.val (.int p0), .val (.int p1), .val (.int (3 : Int32)), .val (.int (2 : Int32)), .val (.int (1 : Int32))] [(.int (2 : Int32)), (.ref (A 1))])) (fun _ k => XS.iloadN X80.here hx rfl (hb hby at_39) rfl k) ?_
      obtain ⟨_, _, ⟨T81, L81, k81, n81⟩, -, X81, ⟨Lc81, hQ81, l81, y81, z81⟩, st81⟩ := Jvm.LawKit.callS X80 hx (y := (⟨"com/example/oblate/oblate/FrameNeedsReferencePinLaw", "pick", "(I)Lcom/example/oblate/oblate/Frame;"⟩ : MethodName)) hown (mvT hZ (hw _ (List.mem_of_getElem? (i := 5) rfl))) (mvT hZ (hw _ (List.mem_of_getElem? (i := 6) rfl))) (mvT hZ (hw _ (List.mem_of_getElem? (i := 3) rfl))) (mvT hZ (hw _ (List.mem_of_getElem? (i := 7) rfl))) (by decide) (own_back (W := 1) (rm2_2 l Z a0 hw []  A hW h0 x0 ) hZ (hw _ (List.mem_of_getElem? (i := 7) rfl)) (hw _ (List.mem_of_getElem? (i := 3) rfl)) (by decide) (by decide)) (g := (mkF m 40 #[.val (.int p0), .val (.int p1), .val (.int (3 : Int32)), .val (.int (2 : Int32)), .val (.int (1 : Int32))] [(.int (2 : Int32)), (.ref (A 1))])) rfl (by rw [hml]; rfl) (argsL := [(.int (2 : Int32))]) (rest := [(.ref (A 1))]) (lenOf pd_1 rfl) rfl (by show 2 * 0 + _ ≤ _; exact Nat.le_of_eq rfl) (hb hby at_40) (fun _ _ => ⟨rfl, e80, (by decide : 0 + 0 ≤ _), (by decide : 0 + 0 ≤ _)⟩)
      dsimp only [Pt.U, Pt.locs, Pt.cells, Pt.slots] at X81 l81 y81 z81 st81 hQ81
      subst l81 y81 z81
      obtain ⟨rfl, N81q, e81⟩ := hQ81
      have N81 := Fr.app N80 N81q
      refine own_go (B := T81.setTop (mkF m 43 #[.val (.int p0), .val (.int p1), .val (.int (3 : Int32)), .val (.int (2 : Int32)), .val (.int (1 : Int32))] [(.ref (A 4)), (.ref (A 1))])) st81 ?_
      obtain ⟨cq82, kq82, q82a, q82b, q82c⟩ := isOf hZ e81 (E_NED.ext x0)
      obtain ⟨_, _, ⟨T82, L82, k82, n82⟩, -, X82, ⟨Lc82, hQ82, l82, y82, z82⟩, st82⟩ := X81.virtualBack hx (y := (⟨"com/example/oblate/oblate/Frame", "needsReference", "(Lcom/example/oblate/oblate/Frame;)Z"⟩ : MethodName)) (z := (⟨"com/example/oblate/oblate/Frame", "needsReference", "(Lcom/example/oblate/oblate/Frame;)Z"⟩ : MethodName)) hown (mvT hZ (hw _ (List.mem_of_getElem? (i := 13) rfl))) (mvT hZ (hw _ (List.mem_of_getElem? (i := 14) rfl))) (notFace_of_selects (args := #[]) (mvT hZ (hw _ (List.mem_of_getElem? (i := 27) rfl)))) (mvT hZ (hw _ (List.mem_of_getElem? (i := 27) rfl))) (mvT hZ (hw _ (List.mem_of_getElem? (i := 15) rfl))) (by decide) (own_back (W := 0) (rm3_17 l Z a0 hw []  A hW h0 x0 ) hZ (hw _ (List.mem_of_getElem? (i := 17) rfl)) (hw _ (List.mem_of_getElem? (i := 9) rfl)) (by decide) (by decide)) q82a q82c (g := (mkF m 43 #[.val (.int p0), .val (.int p1), .val (.int (3 : Int32)), .val (.int (2 : Int32)), .val (.int (1 : Int32))] [(.ref (A 4)), (.ref (A 1))])) rfl (by rw [hml]; rfl) (Steps.refl _) (argsL := [(.ref (A 4))]) (rest := []) (lenOf pd_2 rfl) rfl (by show 2 * 0 + _ ≤ _; exact Nat.le_of_eq rfl) (hb hby at_43) (fun _ _ => ⟨rfl, e81, (by decide : 0 + 0 ≤ _), (by decide : 0 + 0 ≤ _)⟩)
      dsimp only [Pt.U, Pt.locs, Pt.cells, Pt.slots] at X82 l82 y82 z82 st82 hQ82
      subst l82 y82 z82
      obtain ⟨rfl, N82q, e82⟩ := hQ82
      have N82 := Fr.app N81 N82q
      refine own_go (B := T82.setTop (mkF m 46 #[.val (.int p0), .val (.int p1), .val (.int (3 : Int32)), .val (.int (2 : Int32)), .val (.int (1 : Int32))] [(.int (1 : Int32))])) (fun _ k => st82.trans k) ?_
      refine own_go (B := T82.setTop (mkF m 48 #[.val (.int p0), .val (.int p1), .val (.int (3 : Int32)), .val (.int (2 : Int32)), .val (.int (1 : Int32))] [(.int (1 : Int32)), (.int (1 : Int32))])) (fun _ k => XS.iload X82.here hx rfl (hb hby at_46) rfl k) ?_
      refine own_go (B := T82.setTop (mkF m 51 #[.val (.int p0), .val (.int p1), .val (.int (3 : Int32)), .val (.int (2 : Int32)), .val (.int (1 : Int32))] [])) (fun _ k => XS.icmpNo X82.here hx rfl (hb hby at_48) rfl (by decide) k) ?_
      refine own_go (B := T82.setTop (mkF m 52 #[.val (.int p0), .val (.int p1), .val (.int (3 : Int32)), .val (.int (2 : Int32)), .val (.int (1 : Int32))] [(.int (1 : Int32))])) (fun _ k => XT.iconstV X82.here hx rfl (1 : Int32) (hb hby at_51) rfl k) ?_
      refine own_go (B := T82.setTop (mkF m 56 #[.val (.int p0), .val (.int p1), .val (.int (3 : Int32)), .val (.int (2 : Int32)), .val (.int (1 : Int32))] [(.int (1 : Int32))])) (fun _ k => XS.goto X82.here hx rfl (pc0 := 52) (pc' := 56) rfl (hb hby at_52) (by decide) (by decide) k) ?_
      exact own_ret X82 hx (t := .boolean) hrt rfl (Or.inl ⟨rfl, by simp, _, rfl⟩) (hb hby at_56) hlk ⟨rfl, N82⟩ (by decide) (by decide)
    · refine own_go (B := s₁.setTop (mkF m 15 #[.val (.int p0), .val (.int p1), .val (.int (3 : Int32)), .val (.int (3 : Int32)), .unset] [(.int (3 : Int32))])) (fun _ k => XS.iloadN X0.here hx rfl (hb hby at_14) rfl k) ?_
      obtain ⟨_, _, ⟨T83, L83, k83, n83⟩, -, X83, ⟨Lc83, hQ83, l83, y83, z83⟩, st83⟩ := Jvm.LawKit.callS X0 hx (y := (⟨"com/example/oblate/oblate/FrameNeedsReferencePinLaw", "isLocalByDoc", "(I)Z"⟩ : MethodName)) hown (mvT hZ (hw _ (List.mem_of_getElem? (i := 1) rfl))) (mvT hZ (hw _ (List.mem_of_getElem? (i := 2) rfl))) (mvT hZ (hw _ (List.mem_of_getElem? (i := 3) rfl))) (mvT hZ (hw _ (List.mem_of_getElem? (i := 4) rfl))) (by decide) (own_back (W := 0) (rm1_3 l Z a0 hw []  A hW h0 x0 ) hZ (hw _ (List.mem_of_getElem? (i := 4) rfl)) (hw _ (List.mem_of_getElem? (i := 3) rfl)) (by decide) (by decide)) (g := (mkF m 15 #[.val (.int p0), .val (.int p1), .val (.int (3 : Int32)), .val (.int (3 : Int32)), .unset] [(.int (3 : Int32))])) rfl (by rw [hml]; rfl) (argsL := [(.int (3 : Int32))]) (rest := []) (lenOf pd_0 rfl) rfl (by show 2 * 0 + _ ≤ _; exact Nat.le_of_eq rfl) (hb hby at_15) (fun _ _ => ⟨rfl, e0, (by decide : 0 + 0 ≤ _), (by decide : 0 + 0 ≤ _)⟩)
      dsimp only [Pt.U, Pt.locs, Pt.cells, Pt.slots] at X83 l83 y83 z83 st83 hQ83
      subst l83 y83 z83
      obtain ⟨rfl, N83q, e83⟩ := hQ83
      have N83 := Fr.app N0 N83q
      refine own_go (B := T83.setTop (mkF m 18 #[.val (.int p0), .val (.int p1), .val (.int (3 : Int32)), .val (.int (3 : Int32)), .unset] [(.int (1 : Int32))])) st83 ?_
      refine own_go (B := T83.setTop (mkF m 28 #[.val (.int p0), .val (.int p1), .val (.int (3 : Int32)), .val (.int (3 : Int32)), .unset] [])) (fun _ k => XS.ifYes X83.here hx rfl (pc0 := 18) (pc' := 28) rfl (hb hby at_18) rfl (by decide) (by decide) (by decide) k) ?_
      refine own_go (B := T83.setTop (mkF m 29 #[.val (.int p0), .val (.int p1), .val (.int (3 : Int32)), .val (.int (3 : Int32)), .unset] [(.int (1 : Int32))])) (fun _ k => XT.iconstV X83.here hx rfl (1 : Int32) (hb hby at_28) rfl k) ?_
      refine own_go (B := T83.setTop (mkF m 33 #[.val (.int p0), .val (.int p1), .val (.int (3 : Int32)), .val (.int (3 : Int32)), .unset] [(.int (1 : Int32))])) (fun _ k => XS.goto X83.here hx rfl (pc0 := 29) (pc' := 33) rfl (hb hby at_29) (by decide) (by decide) k) ?_
      refine own_go (B := T83.setTop (mkF m 35 #[.val (.int p0), .val (.int p1), .val (.int (3 : Int32)), .val (.int (3 : Int32)), .val (.int (1 : Int32))] [])) (fun _ k => XS.istore X83.here hx rfl (hb hby at_33) rfl (l' := #[.val (.int p0), .val (.int p1), .val (.int (3 : Int32)), .val (.int (3 : Int32)), .val (.int (1 : Int32))]) rfl k) ?_
      refine own_go (B := T83.setTop (mkF m 36 #[.val (.int p0), .val (.int p1), .val (.int (3 : Int32)), .val (.int (3 : Int32)), .val (.int (1 : Int32))] [(.int (3 : Int32))])) (fun _ k => XS.iloadN X83.here hx rfl (hb hby at_35) rfl k) ?_
      obtain ⟨_, _, ⟨T84, L84, k84, n84⟩, -, X84, ⟨Lc84, hQ84, l84, y84, z84⟩, st84⟩ := Jvm.LawKit.callS X83 hx (y := (⟨"com/example/oblate/oblate/FrameNeedsReferencePinLaw", "pick", "(I)Lcom/example/oblate/oblate/Frame;"⟩ : MethodName)) hown (mvT hZ (hw _ (List.mem_of_getElem? (i := 5) rfl))) (mvT hZ (hw _ (List.mem_of_getElem? (i := 6) rfl))) (mvT hZ (hw _ (List.mem_of_getElem? (i := 3) rfl))) (mvT hZ (hw _ (List.mem_of_getElem? (i := 7) rfl))) (by decide) (own_back (W := 0) (rm2_3 l Z a0 hw []  A hW h0 x0 ) hZ (hw _ (List.mem_of_getElem? (i := 7) rfl)) (hw _ (List.mem_of_getElem? (i := 3) rfl)) (by decide) (by decide)) (g := (mkF m 36 #[.val (.int p0), .val (.int p1), .val (.int (3 : Int32)), .val (.int (3 : Int32)), .val (.int (1 : Int32))] [(.int (3 : Int32))])) rfl (by rw [hml]; rfl) (argsL := [(.int (3 : Int32))]) (rest := []) (lenOf pd_1 rfl) rfl (by show 2 * 0 + _ ≤ _; exact Nat.le_of_eq rfl) (hb hby at_36) (fun _ _ => ⟨rfl, e83, (by decide : 0 + 0 ≤ _), (by decide : 0 + 0 ≤ _)⟩)
      dsimp only [Pt.U, Pt.locs, Pt.cells, Pt.slots] at X84 l84 y84 z84 st84 hQ84
      subst l84 y84 z84
      obtain ⟨rfl, N84q, e84⟩ := hQ84
      have N84 := Fr.app N83 N84q
      refine own_go (B := T84.setTop (mkF m 39 #[.val (.int p0), .val (.int p1), .val (.int (3 : Int32)), .val (.int (3 : Int32)), .val (.int (1 : Int32))] [(.ref (A 1))])) st84 ?_
      refine own_go (B := T84.setTop (mkF m 40 #[.val (.int p0), .val (.int p1), .val (.int (3 : Int32)), .val (.int (3 : Int32)), .val (.int (1 : Int32))] [(.int (3 : Int32)), (.ref (A 1))])) (fun _ k => XS.iloadN X84.here hx rfl (hb hby at_39) rfl k) ?_
      obtain ⟨_, _, ⟨T85, L85, k85, n85⟩, -, X85, ⟨Lc85, hQ85, l85, y85, z85⟩, st85⟩ := Jvm.LawKit.callS X84 hx (y := (⟨"com/example/oblate/oblate/FrameNeedsReferencePinLaw", "pick", "(I)Lcom/example/oblate/oblate/Frame;"⟩ : MethodName)) hown (mvT hZ (hw _ (List.mem_of_getElem? (i := 5) rfl))) (mvT hZ (hw _ (List.mem_of_getElem? (i := 6) rfl))) (mvT hZ (hw _ (List.mem_of_getElem? (i := 3) rfl))) (mvT hZ (hw _ (List.mem_of_getElem? (i := 7) rfl))) (by decide) (own_back (W := 1) (rm2_3 l Z a0 hw []  A hW h0 x0 ) hZ (hw _ (List.mem_of_getElem? (i := 7) rfl)) (hw _ (List.mem_of_getElem? (i := 3) rfl)) (by decide) (by decide)) (g := (mkF m 40 #[.val (.int p0), .val (.int p1), .val (.int (3 : Int32)), .val (.int (3 : Int32)), .val (.int (1 : Int32))] [(.int (3 : Int32)), (.ref (A 1))])) rfl (by rw [hml]; rfl) (argsL := [(.int (3 : Int32))]) (rest := [(.ref (A 1))]) (lenOf pd_1 rfl) rfl (by show 2 * 0 + _ ≤ _; exact Nat.le_of_eq rfl) (hb hby at_40) (fun _ _ => ⟨rfl, e84, (by decide : 0 + 0 ≤ _), (by decide : 0 + 0 ≤ _)⟩)
      dsimp only [Pt.U, Pt.locs, Pt.cells, Pt.slots] at X85 l85 y85 z85 st85 hQ85
      subst l85 y85 z85
      obtain ⟨rfl, N85q, e85⟩ := hQ85
      have N85 := Fr.app N84 N85q
      refine own_go (B := T85.setTop (mkF m 43 #[.val (.int p0), .val (.int p1), .val (.int (3 : Int32)), .val (.int (3 : Int32)), .val (.int (1 : Int32))] [(.ref (A 1)), (.ref (A 1))])) st85 ?_
      obtain ⟨cq86, kq86, q86a, q86b, q86c⟩ := isOf hZ e85 (E_NED.ext x0)
      obtain ⟨_, _, ⟨T86, L86, k86, n86⟩, -, X86, ⟨Lc86, hQ86, l86, y86, z86⟩, st86⟩ := X85.virtualBack hx (y := (⟨"com/example/oblate/oblate/Frame", "needsReference", "(Lcom/example/oblate/oblate/Frame;)Z"⟩ : MethodName)) (z := (⟨"com/example/oblate/oblate/Frame", "needsReference", "(Lcom/example/oblate/oblate/Frame;)Z"⟩ : MethodName)) hown (mvT hZ (hw _ (List.mem_of_getElem? (i := 13) rfl))) (mvT hZ (hw _ (List.mem_of_getElem? (i := 14) rfl))) (notFace_of_selects (args := #[]) (mvT hZ (hw _ (List.mem_of_getElem? (i := 27) rfl)))) (mvT hZ (hw _ (List.mem_of_getElem? (i := 27) rfl))) (mvT hZ (hw _ (List.mem_of_getElem? (i := 15) rfl))) (by decide) (own_back (W := 0) (rm3_18 l Z a0 hw []  A hW h0 x0 ) hZ (hw _ (List.mem_of_getElem? (i := 17) rfl)) (hw _ (List.mem_of_getElem? (i := 9) rfl)) (by decide) (by decide)) q86a q86c (g := (mkF m 43 #[.val (.int p0), .val (.int p1), .val (.int (3 : Int32)), .val (.int (3 : Int32)), .val (.int (1 : Int32))] [(.ref (A 1)), (.ref (A 1))])) rfl (by rw [hml]; rfl) (Steps.refl _) (argsL := [(.ref (A 1))]) (rest := []) (lenOf pd_2 rfl) rfl (by show 2 * 0 + _ ≤ _; exact Nat.le_of_eq rfl) (hb hby at_43) (fun _ _ => ⟨rfl, e85, (by decide : 0 + 0 ≤ _), (by decide : 0 + 0 ≤ _)⟩)
      dsimp only [Pt.U, Pt.locs, Pt.cells, Pt.slots] at X86 l86 y86 z86 st86 hQ86
      subst l86 y86 z86
      obtain ⟨rfl, N86q, e86⟩ := hQ86
      have N86 := Fr.app N85 N86q
      refine own_go (B := T86.setTop (mkF m 46 #[.val (.int p0), .val (.int p1), .val (.int (3 : Int32)), .val (.int (3 : Int32)), .val (.int (1 : Int32))] [(.int (1 : Int32))])) (fun _ k => st86.trans k) ?_
      refine own_go (B := T86.setTop (mkF m 48 #[.val (.int p0), .val (.int p1), .val (.int (3 : Int32)), .val (.int (3 : Int32)), .val (.int (1 : Int32))] [(.int (1 : Int32)), (.int (1 : Int32))])) (fun _ k => XS.iload X86.here hx rfl (hb hby at_46) rfl k) ?_
      refine own_go (B := T86.setTop (mkF m 51 #[.val (.int p0), .val (.int p1), .val (.int (3 : Int32)), .val (.int (3 : Int32)), .val (.int (1 : Int32))] [])) (fun _ k => XS.icmpNo X86.here hx rfl (hb hby at_48) rfl (by decide) k) ?_
      refine own_go (B := T86.setTop (mkF m 52 #[.val (.int p0), .val (.int p1), .val (.int (3 : Int32)), .val (.int (3 : Int32)), .val (.int (1 : Int32))] [(.int (1 : Int32))])) (fun _ k => XT.iconstV X86.here hx rfl (1 : Int32) (hb hby at_51) rfl k) ?_
      refine own_go (B := T86.setTop (mkF m 56 #[.val (.int p0), .val (.int p1), .val (.int (3 : Int32)), .val (.int (3 : Int32)), .val (.int (1 : Int32))] [(.int (1 : Int32))])) (fun _ k => XS.goto X86.here hx rfl (pc0 := 52) (pc' := 56) rfl (hb hby at_52) (by decide) (by decide) k) ?_
      exact own_ret X86 hx (t := .boolean) hrt rfl (Or.inl ⟨rfl, by simp, _, rfl⟩) (hb hby at_56) hlk ⟨rfl, N86⟩ (by decide) (by decide)
    · refine own_go (B := s₁.setTop (mkF m 15 #[.val (.int p0), .val (.int p1), .val (.int (3 : Int32)), .val (.int (4 : Int32)), .unset] [(.int (3 : Int32))])) (fun _ k => XS.iloadN X0.here hx rfl (hb hby at_14) rfl k) ?_
      obtain ⟨_, _, ⟨T87, L87, k87, n87⟩, -, X87, ⟨Lc87, hQ87, l87, y87, z87⟩, st87⟩ := Jvm.LawKit.callS X0 hx (y := (⟨"com/example/oblate/oblate/FrameNeedsReferencePinLaw", "isLocalByDoc", "(I)Z"⟩ : MethodName)) hown (mvT hZ (hw _ (List.mem_of_getElem? (i := 1) rfl))) (mvT hZ (hw _ (List.mem_of_getElem? (i := 2) rfl))) (mvT hZ (hw _ (List.mem_of_getElem? (i := 3) rfl))) (mvT hZ (hw _ (List.mem_of_getElem? (i := 4) rfl))) (by decide) (own_back (W := 0) (rm1_3 l Z a0 hw []  A hW h0 x0 ) hZ (hw _ (List.mem_of_getElem? (i := 4) rfl)) (hw _ (List.mem_of_getElem? (i := 3) rfl)) (by decide) (by decide)) (g := (mkF m 15 #[.val (.int p0), .val (.int p1), .val (.int (3 : Int32)), .val (.int (4 : Int32)), .unset] [(.int (3 : Int32))])) rfl (by rw [hml]; rfl) (argsL := [(.int (3 : Int32))]) (rest := []) (lenOf pd_0 rfl) rfl (by show 2 * 0 + _ ≤ _; exact Nat.le_of_eq rfl) (hb hby at_15) (fun _ _ => ⟨rfl, e0, (by decide : 0 + 0 ≤ _), (by decide : 0 + 0 ≤ _)⟩)
      dsimp only [Pt.U, Pt.locs, Pt.cells, Pt.slots] at X87 l87 y87 z87 st87 hQ87
      subst l87 y87 z87
      obtain ⟨rfl, N87q, e87⟩ := hQ87
      have N87 := Fr.app N0 N87q
      refine own_go (B := T87.setTop (mkF m 18 #[.val (.int p0), .val (.int p1), .val (.int (3 : Int32)), .val (.int (4 : Int32)), .unset] [(.int (1 : Int32))])) st87 ?_
      refine own_go (B := T87.setTop (mkF m 28 #[.val (.int p0), .val (.int p1), .val (.int (3 : Int32)), .val (.int (4 : Int32)), .unset] [])) (fun _ k => XS.ifYes X87.here hx rfl (pc0 := 18) (pc' := 28) rfl (hb hby at_18) rfl (by decide) (by decide) (by decide) k) ?_
      refine own_go (B := T87.setTop (mkF m 29 #[.val (.int p0), .val (.int p1), .val (.int (3 : Int32)), .val (.int (4 : Int32)), .unset] [(.int (1 : Int32))])) (fun _ k => XT.iconstV X87.here hx rfl (1 : Int32) (hb hby at_28) rfl k) ?_
      refine own_go (B := T87.setTop (mkF m 33 #[.val (.int p0), .val (.int p1), .val (.int (3 : Int32)), .val (.int (4 : Int32)), .unset] [(.int (1 : Int32))])) (fun _ k => XS.goto X87.here hx rfl (pc0 := 29) (pc' := 33) rfl (hb hby at_29) (by decide) (by decide) k) ?_
      refine own_go (B := T87.setTop (mkF m 35 #[.val (.int p0), .val (.int p1), .val (.int (3 : Int32)), .val (.int (4 : Int32)), .val (.int (1 : Int32))] [])) (fun _ k => XS.istore X87.here hx rfl (hb hby at_33) rfl (l' := #[.val (.int p0), .val (.int p1), .val (.int (3 : Int32)), .val (.int (4 : Int32)), .val (.int (1 : Int32))]) rfl k) ?_
      refine own_go (B := T87.setTop (mkF m 36 #[.val (.int p0), .val (.int p1), .val (.int (3 : Int32)), .val (.int (4 : Int32)), .val (.int (1 : Int32))] [(.int (3 : Int32))])) (fun _ k => XS.iloadN X87.here hx rfl (hb hby at_35) rfl k) ?_
      obtain ⟨_, _, ⟨T88, L88, k88, n88⟩, -, X88, ⟨Lc88, hQ88, l88, y88, z88⟩, st88⟩ := Jvm.LawKit.callS X87 hx (y := (⟨"com/example/oblate/oblate/FrameNeedsReferencePinLaw", "pick", "(I)Lcom/example/oblate/oblate/Frame;"⟩ : MethodName)) hown (mvT hZ (hw _ (List.mem_of_getElem? (i := 5) rfl))) (mvT hZ (hw _ (List.mem_of_getElem? (i := 6) rfl))) (mvT hZ (hw _ (List.mem_of_getElem? (i := 3) rfl))) (mvT hZ (hw _ (List.mem_of_getElem? (i := 7) rfl))) (by decide) (own_back (W := 0) (rm2_3 l Z a0 hw []  A hW h0 x0 ) hZ (hw _ (List.mem_of_getElem? (i := 7) rfl)) (hw _ (List.mem_of_getElem? (i := 3) rfl)) (by decide) (by decide)) (g := (mkF m 36 #[.val (.int p0), .val (.int p1), .val (.int (3 : Int32)), .val (.int (4 : Int32)), .val (.int (1 : Int32))] [(.int (3 : Int32))])) rfl (by rw [hml]; rfl) (argsL := [(.int (3 : Int32))]) (rest := []) (lenOf pd_1 rfl) rfl (by show 2 * 0 + _ ≤ _; exact Nat.le_of_eq rfl) (hb hby at_36) (fun _ _ => ⟨rfl, e87, (by decide : 0 + 0 ≤ _), (by decide : 0 + 0 ≤ _)⟩)
      dsimp only [Pt.U, Pt.locs, Pt.cells, Pt.slots] at X88 l88 y88 z88 st88 hQ88
      subst l88 y88 z88
      obtain ⟨rfl, N88q, e88⟩ := hQ88
      have N88 := Fr.app N87 N88q
      refine own_go (B := T88.setTop (mkF m 39 #[.val (.int p0), .val (.int p1), .val (.int (3 : Int32)), .val (.int (4 : Int32)), .val (.int (1 : Int32))] [(.ref (A 1))])) st88 ?_
      refine own_go (B := T88.setTop (mkF m 40 #[.val (.int p0), .val (.int p1), .val (.int (3 : Int32)), .val (.int (4 : Int32)), .val (.int (1 : Int32))] [(.int (4 : Int32)), (.ref (A 1))])) (fun _ k => XS.iloadN X88.here hx rfl (hb hby at_39) rfl k) ?_
      obtain ⟨_, _, ⟨T89, L89, k89, n89⟩, -, X89, ⟨Lc89, hQ89, l89, y89, z89⟩, st89⟩ := Jvm.LawKit.callS X88 hx (y := (⟨"com/example/oblate/oblate/FrameNeedsReferencePinLaw", "pick", "(I)Lcom/example/oblate/oblate/Frame;"⟩ : MethodName)) hown (mvT hZ (hw _ (List.mem_of_getElem? (i := 5) rfl))) (mvT hZ (hw _ (List.mem_of_getElem? (i := 6) rfl))) (mvT hZ (hw _ (List.mem_of_getElem? (i := 3) rfl))) (mvT hZ (hw _ (List.mem_of_getElem? (i := 7) rfl))) (by decide) (own_back (W := 1) (rm2_4 l Z a0 hw []  A hW h0 x0 ) hZ (hw _ (List.mem_of_getElem? (i := 7) rfl)) (hw _ (List.mem_of_getElem? (i := 3) rfl)) (by decide) (by decide)) (g := (mkF m 40 #[.val (.int p0), .val (.int p1), .val (.int (3 : Int32)), .val (.int (4 : Int32)), .val (.int (1 : Int32))] [(.int (4 : Int32)), (.ref (A 1))])) rfl (by rw [hml]; rfl) (argsL := [(.int (4 : Int32))]) (rest := [(.ref (A 1))]) (lenOf pd_1 rfl) rfl (by show 2 * 0 + _ ≤ _; exact Nat.le_of_eq rfl) (hb hby at_40) (fun _ _ => ⟨rfl, e88, (by decide : 0 + 0 ≤ _), (by decide : 0 + 0 ≤ _)⟩)
      dsimp only [Pt.U, Pt.locs, Pt.cells, Pt.slots] at X89 l89 y89 z89 st89 hQ89
      subst l89 y89 z89
      obtain ⟨rfl, N89q, e89⟩ := hQ89
      have N89 := Fr.app N88 N89q
      refine own_go (B := T89.setTop (mkF m 43 #[.val (.int p0), .val (.int p1), .val (.int (3 : Int32)), .val (.int (4 : Int32)), .val (.int (1 : Int32))] [(.ref (A 2)), (.ref (A 1))])) st89 ?_
      obtain ⟨cq90, kq90, q90a, q90b, q90c⟩ := isOf hZ e89 (E_NED.ext x0)
      obtain ⟨_, _, ⟨T90, L90, k90, n90⟩, -, X90, ⟨Lc90, hQ90, l90, y90, z90⟩, st90⟩ := X89.virtualBack hx (y := (⟨"com/example/oblate/oblate/Frame", "needsReference", "(Lcom/example/oblate/oblate/Frame;)Z"⟩ : MethodName)) (z := (⟨"com/example/oblate/oblate/Frame", "needsReference", "(Lcom/example/oblate/oblate/Frame;)Z"⟩ : MethodName)) hown (mvT hZ (hw _ (List.mem_of_getElem? (i := 13) rfl))) (mvT hZ (hw _ (List.mem_of_getElem? (i := 14) rfl))) (notFace_of_selects (args := #[]) (mvT hZ (hw _ (List.mem_of_getElem? (i := 27) rfl)))) (mvT hZ (hw _ (List.mem_of_getElem? (i := 27) rfl))) (mvT hZ (hw _ (List.mem_of_getElem? (i := 15) rfl))) (by decide) (own_back (W := 0) (rm3_19 l Z a0 hw []  A hW h0 x0 ) hZ (hw _ (List.mem_of_getElem? (i := 17) rfl)) (hw _ (List.mem_of_getElem? (i := 9) rfl)) (by decide) (by decide)) q90a q90c (g := (mkF m 43 #[.val (.int p0), .val (.int p1), .val (.int (3 : Int32)), .val (.int (4 : Int32)), .val (.int (1 : Int32))] [(.ref (A 2)), (.ref (A 1))])) rfl (by rw [hml]; rfl) (Steps.refl _) (argsL := [(.ref (A 2))]) (rest := []) (lenOf pd_2 rfl) rfl (by show 2 * 0 + _ ≤ _; exact Nat.le_of_eq rfl) (hb hby at_43) (fun _ _ => ⟨rfl, e89, (by decide : 0 + 0 ≤ _), (by decide : 0 + 0 ≤ _)⟩)
      dsimp only [Pt.U, Pt.locs, Pt.cells, Pt.slots] at X90 l90 y90 z90 st90 hQ90
      subst l90 y90 z90
      obtain ⟨rfl, N90q, e90⟩ := hQ90
      have N90 := Fr.app N89 N90q
      refine own_go (B := T90.setTop (mkF m 46 #[.val (.int p0), .val (.int p1), .val (.int (3 : Int32)), .val (.int (4 : Int32)), .val (.int (1 : Int32))] [(.int (1 : Int32))])) (fun _ k => st90.trans k) ?_
      refine own_go (B := T90.setTop (mkF m 48 #[.val (.int p0), .val (.int p1), .val (.int (3 : Int32)), .val (.int (4 : Int32)), .val (.int (1 : Int32))] [(.int (1 : Int32)), (.int (1 : Int32))])) (fun _ k => XS.iload X90.here hx rfl (hb hby at_46) rfl k) ?_
      refine own_go (B := T90.setTop (mkF m 51 #[.val (.int p0), .val (.int p1), .val (.int (3 : Int32)), .val (.int (4 : Int32)), .val (.int (1 : Int32))] [])) (fun _ k => XS.icmpNo X90.here hx rfl (hb hby at_48) rfl (by decide) k) ?_
      refine own_go (B := T90.setTop (mkF m 52 #[.val (.int p0), .val (.int p1), .val (.int (3 : Int32)), .val (.int (4 : Int32)), .val (.int (1 : Int32))] [(.int (1 : Int32))])) (fun _ k => XT.iconstV X90.here hx rfl (1 : Int32) (hb hby at_51) rfl k) ?_
      refine own_go (B := T90.setTop (mkF m 56 #[.val (.int p0), .val (.int p1), .val (.int (3 : Int32)), .val (.int (4 : Int32)), .val (.int (1 : Int32))] [(.int (1 : Int32))])) (fun _ k => XS.goto X90.here hx rfl (pc0 := 52) (pc' := 56) rfl (hb hby at_52) (by decide) (by decide) k) ?_
      exact own_ret X90 hx (t := .boolean) hrt rfl (Or.inl ⟨rfl, by simp, _, rfl⟩) (hb hby at_56) hlk ⟨rfl, N90⟩ (by decide) (by decide)
  · refine own_go (B := s₁.setTop (mkF m 8 #[.val (.int p0), .val (.int p1), .val (.int (4 : Int32)), .unset, .unset] [(.int p1)])) (fun _ k => XS.iloadN X0.here hx rfl (hb hby at_7) rfl k) ?_
    refine own_go (B := s₁.setTop (mkF m 10 #[.val (.int p0), .val (.int p1), .val (.int (4 : Int32)), .unset, .unset] [(.int (2147483647 : Int32)), (.int p1)])) (fun _ k => Jvm.Stand.ldcI X0 hx hown (mvT hZ (hw _ (List.mem_of_getElem? (i := 0) rfl))) (g := (mkF m 8 #[.val (.int p0), .val (.int p1), .val (.int (4 : Int32)), .unset, .unset] [(.int p1)])) rfl (hb hby at_8) k) ?_
    refine own_go (B := s₁.setTop (mkF m 11 #[.val (.int p0), .val (.int p1), .val (.int (4 : Int32)), .unset, .unset] [(.int (p1 &&& (2147483647 : Int32)))])) (fun _ k => XS.iand X0.here hx rfl (hb hby at_10) rfl k) ?_
    refine own_go (B := s₁.setTop (mkF m 12 #[.val (.int p0), .val (.int p1), .val (.int (4 : Int32)), .unset, .unset] [(.int (5 : Int32)), (.int (p1 &&& (2147483647 : Int32)))])) (fun _ k => XT.iconstV X0.here hx rfl (5 : Int32) (hb hby at_11) rfl k) ?_
    refine own_go (B := s₁.setTop (mkF m 13 #[.val (.int p0), .val (.int p1), .val (.int (4 : Int32)), .unset, .unset] [(.int ((p1 &&& (2147483647 : Int32)) % (5 : Int32)))])) (fun _ k => iremM (g := (mkF m 12 #[.val (.int p0), .val (.int p1), .val (.int (4 : Int32)), .unset, .unset] [(.int (5 : Int32)), (.int (p1 &&& (2147483647 : Int32)))])) X0 hx rfl (hb hby at_12) rfl (by decide) k) ?_
    refine own_go (B := s₁.setTop (mkF m 14 #[.val (.int p0), .val (.int p1), .val (.int (4 : Int32)), .val (.int ((p1 &&& (2147483647 : Int32)) % (5 : Int32))), .unset] [])) (fun _ k => XS.istoreN X0.here hx rfl (hb hby at_13) rfl (l' := #[.val (.int p0), .val (.int p1), .val (.int (4 : Int32)), .val (.int ((p1 &&& (2147483647 : Int32)) % (5 : Int32))), .unset]) rfl k) ?_
    obtain ⟨ip1, hip1⟩ : ∃ z : Int32, ((p1 &&& (2147483647 : Int32)) % (5 : Int32)) = z := ⟨_, rfl⟩
    rw [hip1]
    have hcs := own_c5 p1
    rw [hip1] at hcs
    rcases hcs with rfl | rfl | rfl | rfl | rfl
    · refine own_go (B := s₁.setTop (mkF m 15 #[.val (.int p0), .val (.int p1), .val (.int (4 : Int32)), .val (.int (0 : Int32)), .unset] [(.int (4 : Int32))])) (fun _ k => XS.iloadN X0.here hx rfl (hb hby at_14) rfl k) ?_
      obtain ⟨_, _, ⟨T91, L91, k91, n91⟩, -, X91, ⟨Lc91, hQ91, l91, y91, z91⟩, st91⟩ := Jvm.LawKit.callS X0 hx (y := (⟨"com/example/oblate/oblate/FrameNeedsReferencePinLaw", "isLocalByDoc", "(I)Z"⟩ : MethodName)) hown (mvT hZ (hw _ (List.mem_of_getElem? (i := 1) rfl))) (mvT hZ (hw _ (List.mem_of_getElem? (i := 2) rfl))) (mvT hZ (hw _ (List.mem_of_getElem? (i := 3) rfl))) (mvT hZ (hw _ (List.mem_of_getElem? (i := 4) rfl))) (by decide) (own_back (W := 0) (rm1_4 l Z a0 hw []  A hW h0 x0 ) hZ (hw _ (List.mem_of_getElem? (i := 4) rfl)) (hw _ (List.mem_of_getElem? (i := 3) rfl)) (by decide) (by decide)) (g := (mkF m 15 #[.val (.int p0), .val (.int p1), .val (.int (4 : Int32)), .val (.int (0 : Int32)), .unset] [(.int (4 : Int32))])) rfl (by rw [hml]; rfl) (argsL := [(.int (4 : Int32))]) (rest := []) (lenOf pd_0 rfl) rfl (by show 2 * 0 + _ ≤ _; exact Nat.le_of_eq rfl) (hb hby at_15) (fun _ _ => ⟨rfl, e0, (by decide : 0 + 0 ≤ _), (by decide : 0 + 0 ≤ _)⟩)
      dsimp only [Pt.U, Pt.locs, Pt.cells, Pt.slots] at X91 l91 y91 z91 st91 hQ91
      subst l91 y91 z91
      obtain ⟨rfl, N91q, e91⟩ := hQ91
      have N91 := Fr.app N0 N91q
      refine own_go (B := T91.setTop (mkF m 18 #[.val (.int p0), .val (.int p1), .val (.int (4 : Int32)), .val (.int (0 : Int32)), .unset] [(.int (1 : Int32))])) st91 ?_
      refine own_go (B := T91.setTop (mkF m 28 #[.val (.int p0), .val (.int p1), .val (.int (4 : Int32)), .val (.int (0 : Int32)), .unset] [])) (fun _ k => XS.ifYes X91.here hx rfl (pc0 := 18) (pc' := 28) rfl (hb hby at_18) rfl (by decide) (by decide) (by decide) k) ?_
      refine own_go (B := T91.setTop (mkF m 29 #[.val (.int p0), .val (.int p1), .val (.int (4 : Int32)), .val (.int (0 : Int32)), .unset] [(.int (1 : Int32))])) (fun _ k => XT.iconstV X91.here hx rfl (1 : Int32) (hb hby at_28) rfl k) ?_
      refine own_go (B := T91.setTop (mkF m 33 #[.val (.int p0), .val (.int p1), .val (.int (4 : Int32)), .val (.int (0 : Int32)), .unset] [(.int (1 : Int32))])) (fun _ k => XS.goto X91.here hx rfl (pc0 := 29) (pc' := 33) rfl (hb hby at_29) (by decide) (by decide) k) ?_
      refine own_go (B := T91.setTop (mkF m 35 #[.val (.int p0), .val (.int p1), .val (.int (4 : Int32)), .val (.int (0 : Int32)), .val (.int (1 : Int32))] [])) (fun _ k => XS.istore X91.here hx rfl (hb hby at_33) rfl (l' := #[.val (.int p0), .val (.int p1), .val (.int (4 : Int32)), .val (.int (0 : Int32)), .val (.int (1 : Int32))]) rfl k) ?_
      refine own_go (B := T91.setTop (mkF m 36 #[.val (.int p0), .val (.int p1), .val (.int (4 : Int32)), .val (.int (0 : Int32)), .val (.int (1 : Int32))] [(.int (4 : Int32))])) (fun _ k => XS.iloadN X91.here hx rfl (hb hby at_35) rfl k) ?_
      obtain ⟨_, _, ⟨T92, L92, k92, n92⟩, -, X92, ⟨Lc92, hQ92, l92, y92, z92⟩, st92⟩ := Jvm.LawKit.callS X91 hx (y := (⟨"com/example/oblate/oblate/FrameNeedsReferencePinLaw", "pick", "(I)Lcom/example/oblate/oblate/Frame;"⟩ : MethodName)) hown (mvT hZ (hw _ (List.mem_of_getElem? (i := 5) rfl))) (mvT hZ (hw _ (List.mem_of_getElem? (i := 6) rfl))) (mvT hZ (hw _ (List.mem_of_getElem? (i := 3) rfl))) (mvT hZ (hw _ (List.mem_of_getElem? (i := 7) rfl))) (by decide) (own_back (W := 0) (rm2_4 l Z a0 hw []  A hW h0 x0 ) hZ (hw _ (List.mem_of_getElem? (i := 7) rfl)) (hw _ (List.mem_of_getElem? (i := 3) rfl)) (by decide) (by decide)) (g := (mkF m 36 #[.val (.int p0), .val (.int p1), .val (.int (4 : Int32)), .val (.int (0 : Int32)), .val (.int (1 : Int32))] [(.int (4 : Int32))])) rfl (by rw [hml]; rfl) (argsL := [(.int (4 : Int32))]) (rest := []) (lenOf pd_1 rfl) rfl (by show 2 * 0 + _ ≤ _; exact Nat.le_of_eq rfl) (hb hby at_36) (fun _ _ => ⟨rfl, e91, (by decide : 0 + 0 ≤ _), (by decide : 0 + 0 ≤ _)⟩)
      dsimp only [Pt.U, Pt.locs, Pt.cells, Pt.slots] at X92 l92 y92 z92 st92 hQ92
      subst l92 y92 z92
      obtain ⟨rfl, N92q, e92⟩ := hQ92
      have N92 := Fr.app N91 N92q
      refine own_go (B := T92.setTop (mkF m 39 #[.val (.int p0), .val (.int p1), .val (.int (4 : Int32)), .val (.int (0 : Int32)), .val (.int (1 : Int32))] [(.ref (A 2))])) st92 ?_
      refine own_go (B := T92.setTop (mkF m 40 #[.val (.int p0), .val (.int p1), .val (.int (4 : Int32)), .val (.int (0 : Int32)), .val (.int (1 : Int32))] [(.int (0 : Int32)), (.ref (A 2))])) (fun _ k => XS.iloadN X92.here hx rfl (hb hby at_39) rfl k) ?_
      obtain ⟨_, _, ⟨T93, L93, k93, n93⟩, -, X93, ⟨Lc93, hQ93, l93, y93, z93⟩, st93⟩ := Jvm.LawKit.callS X92 hx (y := (⟨"com/example/oblate/oblate/FrameNeedsReferencePinLaw", "pick", "(I)Lcom/example/oblate/oblate/Frame;"⟩ : MethodName)) hown (mvT hZ (hw _ (List.mem_of_getElem? (i := 5) rfl))) (mvT hZ (hw _ (List.mem_of_getElem? (i := 6) rfl))) (mvT hZ (hw _ (List.mem_of_getElem? (i := 3) rfl))) (mvT hZ (hw _ (List.mem_of_getElem? (i := 7) rfl))) (by decide) (own_back (W := 1) (rm2_0 l Z a0 hw []  A hW h0 x0 ) hZ (hw _ (List.mem_of_getElem? (i := 7) rfl)) (hw _ (List.mem_of_getElem? (i := 3) rfl)) (by decide) (by decide)) (g := (mkF m 40 #[.val (.int p0), .val (.int p1), .val (.int (4 : Int32)), .val (.int (0 : Int32)), .val (.int (1 : Int32))] [(.int (0 : Int32)), (.ref (A 2))])) rfl (by rw [hml]; rfl) (argsL := [(.int (0 : Int32))]) (rest := [(.ref (A 2))]) (lenOf pd_1 rfl) rfl (by show 2 * 0 + _ ≤ _; exact Nat.le_of_eq rfl) (hb hby at_40) (fun _ _ => ⟨rfl, e92, (by decide : 0 + 0 ≤ _), (by decide : 0 + 0 ≤ _)⟩)
      dsimp only [Pt.U, Pt.locs, Pt.cells, Pt.slots] at X93 l93 y93 z93 st93 hQ93
      subst l93 y93 z93
      obtain ⟨rfl, N93q, e93⟩ := hQ93
      have N93 := Fr.app N92 N93q
      refine own_go (B := T93.setTop (mkF m 43 #[.val (.int p0), .val (.int p1), .val (.int (4 : Int32)), .val (.int (0 : Int32)), .val (.int (1 : Int32))] [(.ref (A 0)), (.ref (A 2))])) st93 ?_
      obtain ⟨cq94, kq94, q94a, q94b, q94c⟩ := isOf hZ e93 (E_AER.ext x0)
      obtain ⟨_, _, ⟨T94, L94, k94, n94⟩, -, X94, ⟨Lc94, hQ94, l94, y94, z94⟩, st94⟩ := X93.virtualBack hx (y := (⟨"com/example/oblate/oblate/Frame", "needsReference", "(Lcom/example/oblate/oblate/Frame;)Z"⟩ : MethodName)) (z := (⟨"com/example/oblate/oblate/Frame", "needsReference", "(Lcom/example/oblate/oblate/Frame;)Z"⟩ : MethodName)) hown (mvT hZ (hw _ (List.mem_of_getElem? (i := 13) rfl))) (mvT hZ (hw _ (List.mem_of_getElem? (i := 14) rfl))) (notFace_of_selects (args := #[]) (mvT hZ (hw _ (List.mem_of_getElem? (i := 25) rfl)))) (mvT hZ (hw _ (List.mem_of_getElem? (i := 25) rfl))) (mvT hZ (hw _ (List.mem_of_getElem? (i := 15) rfl))) (by decide) (own_back (W := 0) (rm3_20 l Z a0 hw []  A hW h0 x0 ) hZ (hw _ (List.mem_of_getElem? (i := 17) rfl)) (hw _ (List.mem_of_getElem? (i := 9) rfl)) (by decide) (by decide)) q94a q94c (g := (mkF m 43 #[.val (.int p0), .val (.int p1), .val (.int (4 : Int32)), .val (.int (0 : Int32)), .val (.int (1 : Int32))] [(.ref (A 0)), (.ref (A 2))])) rfl (by rw [hml]; rfl) (Steps.refl _) (argsL := [(.ref (A 0))]) (rest := []) (lenOf pd_2 rfl) rfl (by show 2 * 0 + _ ≤ _; exact Nat.le_of_eq rfl) (hb hby at_43) (fun _ _ => ⟨rfl, e93, (by decide : 0 + 0 ≤ _), (by decide : 0 + 0 ≤ _)⟩)
      dsimp only [Pt.U, Pt.locs, Pt.cells, Pt.slots] at X94 l94 y94 z94 st94 hQ94
      subst l94 y94 z94
      obtain ⟨rfl, N94q, e94⟩ := hQ94
      have N94 := Fr.app N93 N94q
      refine own_go (B := T94.setTop (mkF m 46 #[.val (.int p0), .val (.int p1), .val (.int (4 : Int32)), .val (.int (0 : Int32)), .val (.int (1 : Int32))] [(.int (1 : Int32))])) (fun _ k => st94.trans k) ?_
      refine own_go (B := T94.setTop (mkF m 48 #[.val (.int p0), .val (.int p1), .val (.int (4 : Int32)), .val (.int (0 : Int32)), .val (.int (1 : Int32))] [(.int (1 : Int32)), (.int (1 : Int32))])) (fun _ k => XS.iload X94.here hx rfl (hb hby at_46) rfl k) ?_
      refine own_go (B := T94.setTop (mkF m 51 #[.val (.int p0), .val (.int p1), .val (.int (4 : Int32)), .val (.int (0 : Int32)), .val (.int (1 : Int32))] [])) (fun _ k => XS.icmpNo X94.here hx rfl (hb hby at_48) rfl (by decide) k) ?_
      refine own_go (B := T94.setTop (mkF m 52 #[.val (.int p0), .val (.int p1), .val (.int (4 : Int32)), .val (.int (0 : Int32)), .val (.int (1 : Int32))] [(.int (1 : Int32))])) (fun _ k => XT.iconstV X94.here hx rfl (1 : Int32) (hb hby at_51) rfl k) ?_
      refine own_go (B := T94.setTop (mkF m 56 #[.val (.int p0), .val (.int p1), .val (.int (4 : Int32)), .val (.int (0 : Int32)), .val (.int (1 : Int32))] [(.int (1 : Int32))])) (fun _ k => XS.goto X94.here hx rfl (pc0 := 52) (pc' := 56) rfl (hb hby at_52) (by decide) (by decide) k) ?_
      exact own_ret X94 hx (t := .boolean) hrt rfl (Or.inl ⟨rfl, by simp, _, rfl⟩) (hb hby at_56) hlk ⟨rfl, N94⟩ (by decide) (by decide)
    · refine own_go (B := s₁.setTop (mkF m 15 #[.val (.int p0), .val (.int p1), .val (.int (4 : Int32)), .val (.int (1 : Int32)), .unset] [(.int (4 : Int32))])) (fun _ k => XS.iloadN X0.here hx rfl (hb hby at_14) rfl k) ?_
      obtain ⟨_, _, ⟨T95, L95, k95, n95⟩, -, X95, ⟨Lc95, hQ95, l95, y95, z95⟩, st95⟩ := Jvm.LawKit.callS X0 hx (y := (⟨"com/example/oblate/oblate/FrameNeedsReferencePinLaw", "isLocalByDoc", "(I)Z"⟩ : MethodName)) hown (mvT hZ (hw _ (List.mem_of_getElem? (i := 1) rfl))) (mvT hZ (hw _ (List.mem_of_getElem? (i := 2) rfl))) (mvT hZ (hw _ (List.mem_of_getElem? (i := 3) rfl))) (mvT hZ (hw _ (List.mem_of_getElem? (i := 4) rfl))) (by decide) (own_back (W := 0) (rm1_4 l Z a0 hw []  A hW h0 x0 ) hZ (hw _ (List.mem_of_getElem? (i := 4) rfl)) (hw _ (List.mem_of_getElem? (i := 3) rfl)) (by decide) (by decide)) (g := (mkF m 15 #[.val (.int p0), .val (.int p1), .val (.int (4 : Int32)), .val (.int (1 : Int32)), .unset] [(.int (4 : Int32))])) rfl (by rw [hml]; rfl) (argsL := [(.int (4 : Int32))]) (rest := []) (lenOf pd_0 rfl) rfl (by show 2 * 0 + _ ≤ _; exact Nat.le_of_eq rfl) (hb hby at_15) (fun _ _ => ⟨rfl, e0, (by decide : 0 + 0 ≤ _), (by decide : 0 + 0 ≤ _)⟩)
      dsimp only [Pt.U, Pt.locs, Pt.cells, Pt.slots] at X95 l95 y95 z95 st95 hQ95
      subst l95 y95 z95
      obtain ⟨rfl, N95q, e95⟩ := hQ95
      have N95 := Fr.app N0 N95q
      refine own_go (B := T95.setTop (mkF m 18 #[.val (.int p0), .val (.int p1), .val (.int (4 : Int32)), .val (.int (1 : Int32)), .unset] [(.int (1 : Int32))])) st95 ?_
      refine own_go (B := T95.setTop (mkF m 28 #[.val (.int p0), .val (.int p1), .val (.int (4 : Int32)), .val (.int (1 : Int32)), .unset] [])) (fun _ k => XS.ifYes X95.here hx rfl (pc0 := 18) (pc' := 28) rfl (hb hby at_18) rfl (by decide) (by decide) (by decide) k) ?_
      refine own_go (B := T95.setTop (mkF m 29 #[.val (.int p0), .val (.int p1), .val (.int (4 : Int32)), .val (.int (1 : Int32)), .unset] [(.int (1 : Int32))])) (fun _ k => XT.iconstV X95.here hx rfl (1 : Int32) (hb hby at_28) rfl k) ?_
      refine own_go (B := T95.setTop (mkF m 33 #[.val (.int p0), .val (.int p1), .val (.int (4 : Int32)), .val (.int (1 : Int32)), .unset] [(.int (1 : Int32))])) (fun _ k => XS.goto X95.here hx rfl (pc0 := 29) (pc' := 33) rfl (hb hby at_29) (by decide) (by decide) k) ?_
      refine own_go (B := T95.setTop (mkF m 35 #[.val (.int p0), .val (.int p1), .val (.int (4 : Int32)), .val (.int (1 : Int32)), .val (.int (1 : Int32))] [])) (fun _ k => XS.istore X95.here hx rfl (hb hby at_33) rfl (l' := #[.val (.int p0), .val (.int p1), .val (.int (4 : Int32)), .val (.int (1 : Int32)), .val (.int (1 : Int32))]) rfl k) ?_
      refine own_go (B := T95.setTop (mkF m 36 #[.val (.int p0), .val (.int p1), .val (.int (4 : Int32)), .val (.int (1 : Int32)), .val (.int (1 : Int32))] [(.int (4 : Int32))])) (fun _ k => XS.iloadN X95.here hx rfl (hb hby at_35) rfl k) ?_
      obtain ⟨_, _, ⟨T96, L96, k96, n96⟩, -, X96, ⟨Lc96, hQ96, l96, y96, z96⟩, st96⟩ := Jvm.LawKit.callS X95 hx (y := (⟨"com/example/oblate/oblate/FrameNeedsReferencePinLaw", "pick", "(I)Lcom/example/oblate/oblate/Frame;"⟩ : MethodName)) hown (mvT hZ (hw _ (List.mem_of_getElem? (i := 5) rfl))) (mvT hZ (hw _ (List.mem_of_getElem? (i := 6) rfl))) (mvT hZ (hw _ (List.mem_of_getElem? (i := 3) rfl))) (mvT hZ (hw _ (List.mem_of_getElem? (i := 7) rfl))) (by decide) (own_back (W := 0) (rm2_4 l Z a0 hw []  A hW h0 x0 ) hZ (hw _ (List.mem_of_getElem? (i := 7) rfl)) (hw _ (List.mem_of_getElem? (i := 3) rfl)) (by decide) (by decide)) (g := (mkF m 36 #[.val (.int p0), .val (.int p1), .val (.int (4 : Int32)), .val (.int (1 : Int32)), .val (.int (1 : Int32))] [(.int (4 : Int32))])) rfl (by rw [hml]; rfl) (argsL := [(.int (4 : Int32))]) (rest := []) (lenOf pd_1 rfl) rfl (by show 2 * 0 + _ ≤ _; exact Nat.le_of_eq rfl) (hb hby at_36) (fun _ _ => ⟨rfl, e95, (by decide : 0 + 0 ≤ _), (by decide : 0 + 0 ≤ _)⟩)
      dsimp only [Pt.U, Pt.locs, Pt.cells, Pt.slots] at X96 l96 y96 z96 st96 hQ96
      subst l96 y96 z96
      obtain ⟨rfl, N96q, e96⟩ := hQ96
      have N96 := Fr.app N95 N96q
      refine own_go (B := T96.setTop (mkF m 39 #[.val (.int p0), .val (.int p1), .val (.int (4 : Int32)), .val (.int (1 : Int32)), .val (.int (1 : Int32))] [(.ref (A 2))])) st96 ?_
      refine own_go (B := T96.setTop (mkF m 40 #[.val (.int p0), .val (.int p1), .val (.int (4 : Int32)), .val (.int (1 : Int32)), .val (.int (1 : Int32))] [(.int (1 : Int32)), (.ref (A 2))])) (fun _ k => XS.iloadN X96.here hx rfl (hb hby at_39) rfl k) ?_
      obtain ⟨_, _, ⟨T97, L97, k97, n97⟩, -, X97, ⟨Lc97, hQ97, l97, y97, z97⟩, st97⟩ := Jvm.LawKit.callS X96 hx (y := (⟨"com/example/oblate/oblate/FrameNeedsReferencePinLaw", "pick", "(I)Lcom/example/oblate/oblate/Frame;"⟩ : MethodName)) hown (mvT hZ (hw _ (List.mem_of_getElem? (i := 5) rfl))) (mvT hZ (hw _ (List.mem_of_getElem? (i := 6) rfl))) (mvT hZ (hw _ (List.mem_of_getElem? (i := 3) rfl))) (mvT hZ (hw _ (List.mem_of_getElem? (i := 7) rfl))) (by decide) (own_back (W := 1) (rm2_1 l Z a0 hw []  A hW h0 x0 ) hZ (hw _ (List.mem_of_getElem? (i := 7) rfl)) (hw _ (List.mem_of_getElem? (i := 3) rfl)) (by decide) (by decide)) (g := (mkF m 40 #[.val (.int p0), .val (.int p1), .val (.int (4 : Int32)), .val (.int (1 : Int32)), .val (.int (1 : Int32))] [(.int (1 : Int32)), (.ref (A 2))])) rfl (by rw [hml]; rfl) (argsL := [(.int (1 : Int32))]) (rest := [(.ref (A 2))]) (lenOf pd_1 rfl) rfl (by show 2 * 0 + _ ≤ _; exact Nat.le_of_eq rfl) (hb hby at_40) (fun _ _ => ⟨rfl, e96, (by decide : 0 + 0 ≤ _), (by decide : 0 + 0 ≤ _)⟩)
      dsimp only [Pt.U, Pt.locs, Pt.cells, Pt.slots] at X97 l97 y97 z97 st97 hQ97
      subst l97 y97 z97
      obtain ⟨rfl, N97q, e97⟩ := hQ97
      have N97 := Fr.app N96 N97q
      refine own_go (B := T97.setTop (mkF m 43 #[.val (.int p0), .val (.int p1), .val (.int (4 : Int32)), .val (.int (1 : Int32)), .val (.int (1 : Int32))] [(.ref (A 3)), (.ref (A 2))])) st97 ?_
      obtain ⟨cq98, kq98, q98a, q98b, q98c⟩ := isOf hZ e97 (E_AER.ext x0)
      obtain ⟨_, _, ⟨T98, L98, k98, n98⟩, -, X98, ⟨Lc98, hQ98, l98, y98, z98⟩, st98⟩ := X97.virtualBack hx (y := (⟨"com/example/oblate/oblate/Frame", "needsReference", "(Lcom/example/oblate/oblate/Frame;)Z"⟩ : MethodName)) (z := (⟨"com/example/oblate/oblate/Frame", "needsReference", "(Lcom/example/oblate/oblate/Frame;)Z"⟩ : MethodName)) hown (mvT hZ (hw _ (List.mem_of_getElem? (i := 13) rfl))) (mvT hZ (hw _ (List.mem_of_getElem? (i := 14) rfl))) (notFace_of_selects (args := #[]) (mvT hZ (hw _ (List.mem_of_getElem? (i := 25) rfl)))) (mvT hZ (hw _ (List.mem_of_getElem? (i := 25) rfl))) (mvT hZ (hw _ (List.mem_of_getElem? (i := 15) rfl))) (by decide) (own_back (W := 0) (rm3_21 l Z a0 hw []  A hW h0 x0 ) hZ (hw _ (List.mem_of_getElem? (i := 17) rfl)) (hw _ (List.mem_of_getElem? (i := 9) rfl)) (by decide) (by decide)) q98a q98c (g := (mkF m 43 #[.val (.int p0), .val (.int p1), .val (.int (4 : Int32)), .val (.int (1 : Int32)), .val (.int (1 : Int32))] [(.ref (A 3)), (.ref (A 2))])) rfl (by rw [hml]; rfl) (Steps.refl _) (argsL := [(.ref (A 3))]) (rest := []) (lenOf pd_2 rfl) rfl (by show 2 * 0 + _ ≤ _; exact Nat.le_of_eq rfl) (hb hby at_43) (fun _ _ => ⟨rfl, e97, (by decide : 0 + 0 ≤ _), (by decide : 0 + 0 ≤ _)⟩)
      dsimp only [Pt.U, Pt.locs, Pt.cells, Pt.slots] at X98 l98 y98 z98 st98 hQ98
      subst l98 y98 z98
      obtain ⟨rfl, N98q, e98⟩ := hQ98
      have N98 := Fr.app N97 N98q
      refine own_go (B := T98.setTop (mkF m 46 #[.val (.int p0), .val (.int p1), .val (.int (4 : Int32)), .val (.int (1 : Int32)), .val (.int (1 : Int32))] [(.int (1 : Int32))])) (fun _ k => st98.trans k) ?_
      refine own_go (B := T98.setTop (mkF m 48 #[.val (.int p0), .val (.int p1), .val (.int (4 : Int32)), .val (.int (1 : Int32)), .val (.int (1 : Int32))] [(.int (1 : Int32)), (.int (1 : Int32))])) (fun _ k => XS.iload X98.here hx rfl (hb hby at_46) rfl k) ?_
      refine own_go (B := T98.setTop (mkF m 51 #[.val (.int p0), .val (.int p1), .val (.int (4 : Int32)), .val (.int (1 : Int32)), .val (.int (1 : Int32))] [])) (fun _ k => XS.icmpNo X98.here hx rfl (hb hby at_48) rfl (by decide) k) ?_
      refine own_go (B := T98.setTop (mkF m 52 #[.val (.int p0), .val (.int p1), .val (.int (4 : Int32)), .val (.int (1 : Int32)), .val (.int (1 : Int32))] [(.int (1 : Int32))])) (fun _ k => XT.iconstV X98.here hx rfl (1 : Int32) (hb hby at_51) rfl k) ?_
      refine own_go (B := T98.setTop (mkF m 56 #[.val (.int p0), .val (.int p1), .val (.int (4 : Int32)), .val (.int (1 : Int32)), .val (.int (1 : Int32))] [(.int (1 : Int32))])) (fun _ k => XS.goto X98.here hx rfl (pc0 := 52) (pc' := 56) rfl (hb hby at_52) (by decide) (by decide) k) ?_
      exact own_ret X98 hx (t := .boolean) hrt rfl (Or.inl ⟨rfl, by simp, _, rfl⟩) (hb hby at_56) hlk ⟨rfl, N98⟩ (by decide) (by decide)
    · refine own_go (B := s₁.setTop (mkF m 15 #[.val (.int p0), .val (.int p1), .val (.int (4 : Int32)), .val (.int (2 : Int32)), .unset] [(.int (4 : Int32))])) (fun _ k => XS.iloadN X0.here hx rfl (hb hby at_14) rfl k) ?_
      obtain ⟨_, _, ⟨T99, L99, k99, n99⟩, -, X99, ⟨Lc99, hQ99, l99, y99, z99⟩, st99⟩ := Jvm.LawKit.callS X0 hx (y := (⟨"com/example/oblate/oblate/FrameNeedsReferencePinLaw", "isLocalByDoc", "(I)Z"⟩ : MethodName)) hown (mvT hZ (hw _ (List.mem_of_getElem? (i := 1) rfl))) (mvT hZ (hw _ (List.mem_of_getElem? (i := 2) rfl))) (mvT hZ (hw _ (List.mem_of_getElem? (i := 3) rfl))) (mvT hZ (hw _ (List.mem_of_getElem? (i := 4) rfl))) (by decide) (own_back (W := 0) (rm1_4 l Z a0 hw []  A hW h0 x0 ) hZ (hw _ (List.mem_of_getElem? (i := 4) rfl)) (hw _ (List.mem_of_getElem? (i := 3) rfl)) (by decide) (by decide)) (g := (mkF m 15 #[.val (.int p0), .val (.int p1), .val (.int (4 : Int32)), .val (.int (2 : Int32)), .unset] [(.int (4 : Int32))])) rfl (by rw [hml]; rfl) (argsL := [(.int (4 : Int32))]) (rest := []) (lenOf pd_0 rfl) rfl (by show 2 * 0 + _ ≤ _; exact Nat.le_of_eq rfl) (hb hby at_15) (fun _ _ => ⟨rfl, e0, (by decide : 0 + 0 ≤ _), (by decide : 0 + 0 ≤ _)⟩)
      dsimp only [Pt.U, Pt.locs, Pt.cells, Pt.slots] at X99 l99 y99 z99 st99 hQ99
      subst l99 y99 z99
      obtain ⟨rfl, N99q, e99⟩ := hQ99
      have N99 := Fr.app N0 N99q
      refine own_go (B := T99.setTop (mkF m 18 #[.val (.int p0), .val (.int p1), .val (.int (4 : Int32)), .val (.int (2 : Int32)), .unset] [(.int (1 : Int32))])) st99 ?_
      refine own_go (B := T99.setTop (mkF m 28 #[.val (.int p0), .val (.int p1), .val (.int (4 : Int32)), .val (.int (2 : Int32)), .unset] [])) (fun _ k => XS.ifYes X99.here hx rfl (pc0 := 18) (pc' := 28) rfl (hb hby at_18) rfl (by decide) (by decide) (by decide) k) ?_
      refine own_go (B := T99.setTop (mkF m 29 #[.val (.int p0), .val (.int p1), .val (.int (4 : Int32)), .val (.int (2 : Int32)), .unset] [(.int (1 : Int32))])) (fun _ k => XT.iconstV X99.here hx rfl (1 : Int32) (hb hby at_28) rfl k) ?_
      refine own_go (B := T99.setTop (mkF m 33 #[.val (.int p0), .val (.int p1), .val (.int (4 : Int32)), .val (.int (2 : Int32)), .unset] [(.int (1 : Int32))])) (fun _ k => XS.goto X99.here hx rfl (pc0 := 29) (pc' := 33) rfl (hb hby at_29) (by decide) (by decide) k) ?_
      refine own_go (B := T99.setTop (mkF m 35 #[.val (.int p0), .val (.int p1), .val (.int (4 : Int32)), .val (.int (2 : Int32)), .val (.int (1 : Int32))] [])) (fun _ k => XS.istore X99.here hx rfl (hb hby at_33) rfl (l' := #[.val (.int p0), .val (.int p1), .val (.int (4 : Int32)), .val (.int (2 : Int32)), .val (.int (1 : Int32))]) rfl k) ?_
      refine own_go (B := T99.setTop (mkF m 36 #[.val (.int p0), .val (.int p1), .val (.int (4 : Int32)), .val (.int (2 : Int32)), .val (.int (1 : Int32))] [(.int (4 : Int32))])) (fun _ k => XS.iloadN X99.here hx rfl (hb hby at_35) rfl k) ?_
      obtain ⟨_, _, ⟨T100, L100, k100, n100⟩, -, X100, ⟨Lc100, hQ100, l100, y100, z100⟩, st100⟩ := Jvm.LawKit.callS X99 hx (y := (⟨"com/example/oblate/oblate/FrameNeedsReferencePinLaw", "pick", "(I)Lcom/example/oblate/oblate/Frame;"⟩ : MethodName)) hown (mvT hZ (hw _ (List.mem_of_getElem? (i := 5) rfl))) (mvT hZ (hw _ (List.mem_of_getElem? (i := 6) rfl))) (mvT hZ (hw _ (List.mem_of_getElem? (i := 3) rfl))) (mvT hZ (hw _ (List.mem_of_getElem? (i := 7) rfl))) (by decide) (own_back (W := 0) (rm2_4 l Z a0 hw []  A hW h0 x0 ) hZ (hw _ (List.mem_of_getElem? (i := 7) rfl)) (hw _ (List.mem_of_getElem? (i := 3) rfl)) (by decide) (by decide)) (g := (mkF m 36 #[.val (.int p0), .val (.int p1), .val (.int (4 : Int32)), .val (.int (2 : Int32)), .val (.int (1 : Int32))] [(.int (4 : Int32))])) rfl (by rw [hml]; rfl) (argsL := [(.int (4 : Int32))]) (rest := []) (lenOf pd_1 rfl) rfl (by show 2 * 0 + _ ≤ _; exact Nat.le_of_eq rfl) (hb hby at_36) (fun _ _ => ⟨rfl, e99, (by decide : 0 + 0 ≤ _), (by decide : 0 + 0 ≤ _)⟩)
      dsimp only [Pt.U, Pt.locs, Pt.cells, Pt.slots] at X100 l100 y100 z100 st100 hQ100
      subst l100 y100 z100
      obtain ⟨rfl, N100q, e100⟩ := hQ100
      have N100 := Fr.app N99 N100q
      refine own_go (B := T100.setTop (mkF m 39 #[.val (.int p0), .val (.int p1), .val (.int (4 : Int32)), .val (.int (2 : Int32)), .val (.int (1 : Int32))] [(.ref (A 2))])) st100 ?_
      refine own_go (B := T100.setTop (mkF m 40 #[.val (.int p0), .val (.int p1), .val (.int (4 : Int32)), .val (.int (2 : Int32)), .val (.int (1 : Int32))] [(.int (2 : Int32)), (.ref (A 2))])) (fun _ k => XS.iloadN X100.here hx rfl (hb hby at_39) rfl k) ?_
      obtain ⟨_, _, ⟨T101, L101, k101, n101⟩, -, X101, ⟨Lc101, hQ101, l101, y101, z101⟩, st101⟩ := Jvm.LawKit.callS X100 hx (y := (⟨"com/example/oblate/oblate/FrameNeedsReferencePinLaw", "pick", "(I)Lcom/example/oblate/oblate/Frame;"⟩ : MethodName)) hown (mvT hZ (hw _ (List.mem_of_getElem? (i := 5) rfl))) (mvT hZ (hw _ (List.mem_of_getElem? (i := 6) rfl))) (mvT hZ (hw _ (List.mem_of_getElem? (i := 3) rfl))) (mvT hZ (hw _ (List.mem_of_getElem? (i := 7) rfl))) (by decide) (own_back (W := 1) (rm2_2 l Z a0 hw []  A hW h0 x0 ) hZ (hw _ (List.mem_of_getElem? (i := 7) rfl)) (hw _ (List.mem_of_getElem? (i := 3) rfl)) (by decide) (by decide)) (g := (mkF m 40 #[.val (.int p0), .val (.int p1), .val (.int (4 : Int32)), .val (.int (2 : Int32)), .val (.int (1 : Int32))] [(.int (2 : Int32)), (.ref (A 2))])) rfl (by rw [hml]; rfl) (argsL := [(.int (2 : Int32))]) (rest := [(.ref (A 2))]) (lenOf pd_1 rfl) rfl (by show 2 * 0 + _ ≤ _; exact Nat.le_of_eq rfl) (hb hby at_40) (fun _ _ => ⟨rfl, e100, (by decide : 0 + 0 ≤ _), (by decide : 0 + 0 ≤ _)⟩)
      dsimp only [Pt.U, Pt.locs, Pt.cells, Pt.slots] at X101 l101 y101 z101 st101 hQ101
      subst l101 y101 z101
      obtain ⟨rfl, N101q, e101⟩ := hQ101
      have N101 := Fr.app N100 N101q
      refine own_go (B := T101.setTop (mkF m 43 #[.val (.int p0), .val (.int p1), .val (.int (4 : Int32)), .val (.int (2 : Int32)), .val (.int (1 : Int32))] [(.ref (A 4)), (.ref (A 2))])) st101 ?_
      obtain ⟨cq102, kq102, q102a, q102b, q102c⟩ := isOf hZ e101 (E_AER.ext x0)
      obtain ⟨_, _, ⟨T102, L102, k102, n102⟩, -, X102, ⟨Lc102, hQ102, l102, y102, z102⟩, st102⟩ := X101.virtualBack hx (y := (⟨"com/example/oblate/oblate/Frame", "needsReference", "(Lcom/example/oblate/oblate/Frame;)Z"⟩ : MethodName)) (z := (⟨"com/example/oblate/oblate/Frame", "needsReference", "(Lcom/example/oblate/oblate/Frame;)Z"⟩ : MethodName)) hown (mvT hZ (hw _ (List.mem_of_getElem? (i := 13) rfl))) (mvT hZ (hw _ (List.mem_of_getElem? (i := 14) rfl))) (notFace_of_selects (args := #[]) (mvT hZ (hw _ (List.mem_of_getElem? (i := 25) rfl)))) (mvT hZ (hw _ (List.mem_of_getElem? (i := 25) rfl))) (mvT hZ (hw _ (List.mem_of_getElem? (i := 15) rfl))) (by decide) (own_back (W := 0) (rm3_22 l Z a0 hw []  A hW h0 x0 ) hZ (hw _ (List.mem_of_getElem? (i := 17) rfl)) (hw _ (List.mem_of_getElem? (i := 9) rfl)) (by decide) (by decide)) q102a q102c (g := (mkF m 43 #[.val (.int p0), .val (.int p1), .val (.int (4 : Int32)), .val (.int (2 : Int32)), .val (.int (1 : Int32))] [(.ref (A 4)), (.ref (A 2))])) rfl (by rw [hml]; rfl) (Steps.refl _) (argsL := [(.ref (A 4))]) (rest := []) (lenOf pd_2 rfl) rfl (by show 2 * 0 + _ ≤ _; exact Nat.le_of_eq rfl) (hb hby at_43) (fun _ _ => ⟨rfl, e101, (by decide : 0 + 0 ≤ _), (by decide : 0 + 0 ≤ _)⟩)
      dsimp only [Pt.U, Pt.locs, Pt.cells, Pt.slots] at X102 l102 y102 z102 st102 hQ102
      subst l102 y102 z102
      obtain ⟨rfl, N102q, e102⟩ := hQ102
      have N102 := Fr.app N101 N102q
      refine own_go (B := T102.setTop (mkF m 46 #[.val (.int p0), .val (.int p1), .val (.int (4 : Int32)), .val (.int (2 : Int32)), .val (.int (1 : Int32))] [(.int (1 : Int32))])) (fun _ k => st102.trans k) ?_
      refine own_go (B := T102.setTop (mkF m 48 #[.val (.int p0), .val (.int p1), .val (.int (4 : Int32)), .val (.int (2 : Int32)), .val (.int (1 : Int32))] [(.int (1 : Int32)), (.int (1 : Int32))])) (fun _ k => XS.iload X102.here hx rfl (hb hby at_46) rfl k) ?_
      refine own_go (B := T102.setTop (mkF m 51 #[.val (.int p0), .val (.int p1), .val (.int (4 : Int32)), .val (.int (2 : Int32)), .val (.int (1 : Int32))] [])) (fun _ k => XS.icmpNo X102.here hx rfl (hb hby at_48) rfl (by decide) k) ?_
      refine own_go (B := T102.setTop (mkF m 52 #[.val (.int p0), .val (.int p1), .val (.int (4 : Int32)), .val (.int (2 : Int32)), .val (.int (1 : Int32))] [(.int (1 : Int32))])) (fun _ k => XT.iconstV X102.here hx rfl (1 : Int32) (hb hby at_51) rfl k) ?_
      refine own_go (B := T102.setTop (mkF m 56 #[.val (.int p0), .val (.int p1), .val (.int (4 : Int32)), .val (.int (2 : Int32)), .val (.int (1 : Int32))] [(.int (1 : Int32))])) (fun _ k => XS.goto X102.here hx rfl (pc0 := 52) (pc' := 56) rfl (hb hby at_52) (by decide) (by decide) k) ?_
      exact own_ret X102 hx (t := .boolean) hrt rfl (Or.inl ⟨rfl, by simp, _, rfl⟩) (hb hby at_56) hlk ⟨rfl, N102⟩ (by decide) (by decide)
    · refine own_go (B := s₁.setTop (mkF m 15 #[.val (.int p0), .val (.int p1), .val (.int (4 : Int32)), .val (.int (3 : Int32)), .unset] [(.int (4 : Int32))])) (fun _ k => XS.iloadN X0.here hx rfl (hb hby at_14) rfl k) ?_
      obtain ⟨_, _, ⟨T103, L103, k103, n103⟩, -, X103, ⟨Lc103, hQ103, l103, y103, z103⟩, st103⟩ := Jvm.LawKit.callS X0 hx (y := (⟨"com/example/oblate/oblate/FrameNeedsReferencePinLaw", "isLocalByDoc", "(I)Z"⟩ : MethodName)) hown (mvT hZ (hw _ (List.mem_of_getElem? (i := 1) rfl))) (mvT hZ (hw _ (List.mem_of_getElem? (i := 2) rfl))) (mvT hZ (hw _ (List.mem_of_getElem? (i := 3) rfl))) (mvT hZ (hw _ (List.mem_of_getElem? (i := 4) rfl))) (by decide) (own_back (W := 0) (rm1_4 l Z a0 hw []  A hW h0 x0 ) hZ (hw _ (List.mem_of_getElem? (i := 4) rfl)) (hw _ (List.mem_of_getElem? (i := 3) rfl)) (by decide) (by decide)) (g := (mkF m 15 #[.val (.int p0), .val (.int p1), .val (.int (4 : Int32)), .val (.int (3 : Int32)), .unset] [(.int (4 : Int32))])) rfl (by rw [hml]; rfl) (argsL := [(.int (4 : Int32))]) (rest := []) (lenOf pd_0 rfl) rfl (by show 2 * 0 + _ ≤ _; exact Nat.le_of_eq rfl) (hb hby at_15) (fun _ _ => ⟨rfl, e0, (by decide : 0 + 0 ≤ _), (by decide : 0 + 0 ≤ _)⟩)
      dsimp only [Pt.U, Pt.locs, Pt.cells, Pt.slots] at X103 l103 y103 z103 st103 hQ103
      subst l103 y103 z103
      obtain ⟨rfl, N103q, e103⟩ := hQ103
      have N103 := Fr.app N0 N103q
      refine own_go (B := T103.setTop (mkF m 18 #[.val (.int p0), .val (.int p1), .val (.int (4 : Int32)), .val (.int (3 : Int32)), .unset] [(.int (1 : Int32))])) st103 ?_
      refine own_go (B := T103.setTop (mkF m 28 #[.val (.int p0), .val (.int p1), .val (.int (4 : Int32)), .val (.int (3 : Int32)), .unset] [])) (fun _ k => XS.ifYes X103.here hx rfl (pc0 := 18) (pc' := 28) rfl (hb hby at_18) rfl (by decide) (by decide) (by decide) k) ?_
      refine own_go (B := T103.setTop (mkF m 29 #[.val (.int p0), .val (.int p1), .val (.int (4 : Int32)), .val (.int (3 : Int32)), .unset] [(.int (1 : Int32))])) (fun _ k => XT.iconstV X103.here hx rfl (1 : Int32) (hb hby at_28) rfl k) ?_
      refine own_go (B := T103.setTop (mkF m 33 #[.val (.int p0), .val (.int p1), .val (.int (4 : Int32)), .val (.int (3 : Int32)), .unset] [(.int (1 : Int32))])) (fun _ k => XS.goto X103.here hx rfl (pc0 := 29) (pc' := 33) rfl (hb hby at_29) (by decide) (by decide) k) ?_
      refine own_go (B := T103.setTop (mkF m 35 #[.val (.int p0), .val (.int p1), .val (.int (4 : Int32)), .val (.int (3 : Int32)), .val (.int (1 : Int32))] [])) (fun _ k => XS.istore X103.here hx rfl (hb hby at_33) rfl (l' := #[.val (.int p0), .val (.int p1), .val (.int (4 : Int32)), .val (.int (3 : Int32)), .val (.int (1 : Int32))]) rfl k) ?_
      refine own_go (B := T103.setTop (mkF m 36 #[.val (.int p0), .val (.int p1), .val (.int (4 : Int32)), .val (.int (3 : Int32)), .val (.int (1 : Int32))] [(.int (4 : Int32))])) (fun _ k => XS.iloadN X103.here hx rfl (hb hby at_35) rfl k) ?_
      obtain ⟨_, _, ⟨T104, L104, k104, n104⟩, -, X104, ⟨Lc104, hQ104, l104, y104, z104⟩, st104⟩ := Jvm.LawKit.callS X103 hx (y := (⟨"com/example/oblate/oblate/FrameNeedsReferencePinLaw", "pick", "(I)Lcom/example/oblate/oblate/Frame;"⟩ : MethodName)) hown (mvT hZ (hw _ (List.mem_of_getElem? (i := 5) rfl))) (mvT hZ (hw _ (List.mem_of_getElem? (i := 6) rfl))) (mvT hZ (hw _ (List.mem_of_getElem? (i := 3) rfl))) (mvT hZ (hw _ (List.mem_of_getElem? (i := 7) rfl))) (by decide) (own_back (W := 0) (rm2_4 l Z a0 hw []  A hW h0 x0 ) hZ (hw _ (List.mem_of_getElem? (i := 7) rfl)) (hw _ (List.mem_of_getElem? (i := 3) rfl)) (by decide) (by decide)) (g := (mkF m 36 #[.val (.int p0), .val (.int p1), .val (.int (4 : Int32)), .val (.int (3 : Int32)), .val (.int (1 : Int32))] [(.int (4 : Int32))])) rfl (by rw [hml]; rfl) (argsL := [(.int (4 : Int32))]) (rest := []) (lenOf pd_1 rfl) rfl (by show 2 * 0 + _ ≤ _; exact Nat.le_of_eq rfl) (hb hby at_36) (fun _ _ => ⟨rfl, e103, (by decide : 0 + 0 ≤ _), (by decide : 0 + 0 ≤ _)⟩)
      dsimp only [Pt.U, Pt.locs, Pt.cells, Pt.slots] at X104 l104 y104 z104 st104 hQ104
      subst l104 y104 z104
      obtain ⟨rfl, N104q, e104⟩ := hQ104
      have N104 := Fr.app N103 N104q
      refine own_go (B := T104.setTop (mkF m 39 #[.val (.int p0), .val (.int p1), .val (.int (4 : Int32)), .val (.int (3 : Int32)), .val (.int (1 : Int32))] [(.ref (A 2))])) st104 ?_
      refine own_go (B := T104.setTop (mkF m 40 #[.val (.int p0), .val (.int p1), .val (.int (4 : Int32)), .val (.int (3 : Int32)), .val (.int (1 : Int32))] [(.int (3 : Int32)), (.ref (A 2))])) (fun _ k => XS.iloadN X104.here hx rfl (hb hby at_39) rfl k) ?_
      obtain ⟨_, _, ⟨T105, L105, k105, n105⟩, -, X105, ⟨Lc105, hQ105, l105, y105, z105⟩, st105⟩ := Jvm.LawKit.callS X104 hx (y := (⟨"com/example/oblate/oblate/FrameNeedsReferencePinLaw", "pick", "(I)Lcom/example/oblate/oblate/Frame;"⟩ : MethodName)) hown (mvT hZ (hw _ (List.mem_of_getElem? (i := 5) rfl))) (mvT hZ (hw _ (List.mem_of_getElem? (i := 6) rfl))) (mvT hZ (hw _ (List.mem_of_getElem? (i := 3) rfl))) (mvT hZ (hw _ (List.mem_of_getElem? (i := 7) rfl))) (by decide) (own_back (W := 1) (rm2_3 l Z a0 hw []  A hW h0 x0 ) hZ (hw _ (List.mem_of_getElem? (i := 7) rfl)) (hw _ (List.mem_of_getElem? (i := 3) rfl)) (by decide) (by decide)) (g := (mkF m 40 #[.val (.int p0), .val (.int p1), .val (.int (4 : Int32)), .val (.int (3 : Int32)), .val (.int (1 : Int32))] [(.int (3 : Int32)), (.ref (A 2))])) rfl (by rw [hml]; rfl) (argsL := [(.int (3 : Int32))]) (rest := [(.ref (A 2))]) (lenOf pd_1 rfl) rfl (by show 2 * 0 + _ ≤ _; exact Nat.le_of_eq rfl) (hb hby at_40) (fun _ _ => ⟨rfl, e104, (by decide : 0 + 0 ≤ _), (by decide : 0 + 0 ≤ _)⟩)
      dsimp only [Pt.U, Pt.locs, Pt.cells, Pt.slots] at X105 l105 y105 z105 st105 hQ105
      subst l105 y105 z105
      obtain ⟨rfl, N105q, e105⟩ := hQ105
      have N105 := Fr.app N104 N105q
      refine own_go (B := T105.setTop (mkF m 43 #[.val (.int p0), .val (.int p1), .val (.int (4 : Int32)), .val (.int (3 : Int32)), .val (.int (1 : Int32))] [(.ref (A 1)), (.ref (A 2))])) st105 ?_
      obtain ⟨cq106, kq106, q106a, q106b, q106c⟩ := isOf hZ e105 (E_AER.ext x0)
      obtain ⟨_, _, ⟨T106, L106, k106, n106⟩, -, X106, ⟨Lc106, hQ106, l106, y106, z106⟩, st106⟩ := X105.virtualBack hx (y := (⟨"com/example/oblate/oblate/Frame", "needsReference", "(Lcom/example/oblate/oblate/Frame;)Z"⟩ : MethodName)) (z := (⟨"com/example/oblate/oblate/Frame", "needsReference", "(Lcom/example/oblate/oblate/Frame;)Z"⟩ : MethodName)) hown (mvT hZ (hw _ (List.mem_of_getElem? (i := 13) rfl))) (mvT hZ (hw _ (List.mem_of_getElem? (i := 14) rfl))) (notFace_of_selects (args := #[]) (mvT hZ (hw _ (List.mem_of_getElem? (i := 25) rfl)))) (mvT hZ (hw _ (List.mem_of_getElem? (i := 25) rfl))) (mvT hZ (hw _ (List.mem_of_getElem? (i := 15) rfl))) (by decide) (own_back (W := 0) (rm3_23 l Z a0 hw []  A hW h0 x0 ) hZ (hw _ (List.mem_of_getElem? (i := 17) rfl)) (hw _ (List.mem_of_getElem? (i := 9) rfl)) (by decide) (by decide)) q106a q106c (g := (mkF m 43 #[.val (.int p0), .val (.int p1), .val (.int (4 : Int32)), .val (.int (3 : Int32)), .val (.int (1 : Int32))] [(.ref (A 1)), (.ref (A 2))])) rfl (by rw [hml]; rfl) (Steps.refl _) (argsL := [(.ref (A 1))]) (rest := []) (lenOf pd_2 rfl) rfl (by show 2 * 0 + _ ≤ _; exact Nat.le_of_eq rfl) (hb hby at_43) (fun _ _ => ⟨rfl, e105, (by decide : 0 + 0 ≤ _), (by decide : 0 + 0 ≤ _)⟩)
      dsimp only [Pt.U, Pt.locs, Pt.cells, Pt.slots] at X106 l106 y106 z106 st106 hQ106
      subst l106 y106 z106
      obtain ⟨rfl, N106q, e106⟩ := hQ106
      have N106 := Fr.app N105 N106q
      refine own_go (B := T106.setTop (mkF m 46 #[.val (.int p0), .val (.int p1), .val (.int (4 : Int32)), .val (.int (3 : Int32)), .val (.int (1 : Int32))] [(.int (1 : Int32))])) (fun _ k => st106.trans k) ?_
      refine own_go (B := T106.setTop (mkF m 48 #[.val (.int p0), .val (.int p1), .val (.int (4 : Int32)), .val (.int (3 : Int32)), .val (.int (1 : Int32))] [(.int (1 : Int32)), (.int (1 : Int32))])) (fun _ k => XS.iload X106.here hx rfl (hb hby at_46) rfl k) ?_
      refine own_go (B := T106.setTop (mkF m 51 #[.val (.int p0), .val (.int p1), .val (.int (4 : Int32)), .val (.int (3 : Int32)), .val (.int (1 : Int32))] [])) (fun _ k => XS.icmpNo X106.here hx rfl (hb hby at_48) rfl (by decide) k) ?_
      refine own_go (B := T106.setTop (mkF m 52 #[.val (.int p0), .val (.int p1), .val (.int (4 : Int32)), .val (.int (3 : Int32)), .val (.int (1 : Int32))] [(.int (1 : Int32))])) (fun _ k => XT.iconstV X106.here hx rfl (1 : Int32) (hb hby at_51) rfl k) ?_
      refine own_go (B := T106.setTop (mkF m 56 #[.val (.int p0), .val (.int p1), .val (.int (4 : Int32)), .val (.int (3 : Int32)), .val (.int (1 : Int32))] [(.int (1 : Int32))])) (fun _ k => XS.goto X106.here hx rfl (pc0 := 52) (pc' := 56) rfl (hb hby at_52) (by decide) (by decide) k) ?_
      exact own_ret X106 hx (t := .boolean) hrt rfl (Or.inl ⟨rfl, by simp, _, rfl⟩) (hb hby at_56) hlk ⟨rfl, N106⟩ (by decide) (by decide)
    · refine own_go (B := s₁.setTop (mkF m 15 #[.val (.int p0), .val (.int p1), .val (.int (4 : Int32)), .val (.int (4 : Int32)), .unset] [(.int (4 : Int32))])) (fun _ k => XS.iloadN X0.here hx rfl (hb hby at_14) rfl k) ?_
      obtain ⟨_, _, ⟨T107, L107, k107, n107⟩, -, X107, ⟨Lc107, hQ107, l107, y107, z107⟩, st107⟩ := Jvm.LawKit.callS X0 hx (y := (⟨"com/example/oblate/oblate/FrameNeedsReferencePinLaw", "isLocalByDoc", "(I)Z"⟩ : MethodName)) hown (mvT hZ (hw _ (List.mem_of_getElem? (i := 1) rfl))) (mvT hZ (hw _ (List.mem_of_getElem? (i := 2) rfl))) (mvT hZ (hw _ (List.mem_of_getElem? (i := 3) rfl))) (mvT hZ (hw _ (List.mem_of_getElem? (i := 4) rfl))) (by decide) (own_back (W := 0) (rm1_4 l Z a0 hw []  A hW h0 x0 ) hZ (hw _ (List.mem_of_getElem? (i := 4) rfl)) (hw _ (List.mem_of_getElem? (i := 3) rfl)) (by decide) (by decide)) (g := (mkF m 15 #[.val (.int p0), .val (.int p1), .val (.int (4 : Int32)), .val (.int (4 : Int32)), .unset] [(.int (4 : Int32))])) rfl (by rw [hml]; rfl) (argsL := [(.int (4 : Int32))]) (rest := []) (lenOf pd_0 rfl) rfl (by show 2 * 0 + _ ≤ _; exact Nat.le_of_eq rfl) (hb hby at_15) (fun _ _ => ⟨rfl, e0, (by decide : 0 + 0 ≤ _), (by decide : 0 + 0 ≤ _)⟩)
      dsimp only [Pt.U, Pt.locs, Pt.cells, Pt.slots] at X107 l107 y107 z107 st107 hQ107
      subst l107 y107 z107
      obtain ⟨rfl, N107q, e107⟩ := hQ107
      have N107 := Fr.app N0 N107q
      refine own_go (B := T107.setTop (mkF m 18 #[.val (.int p0), .val (.int p1), .val (.int (4 : Int32)), .val (.int (4 : Int32)), .unset] [(.int (1 : Int32))])) st107 ?_
      refine own_go (B := T107.setTop (mkF m 28 #[.val (.int p0), .val (.int p1), .val (.int (4 : Int32)), .val (.int (4 : Int32)), .unset] [])) (fun _ k => XS.ifYes X107.here hx rfl (pc0 := 18) (pc' := 28) rfl (hb hby at_18) rfl (by decide) (by decide) (by decide) k) ?_
      refine own_go (B := T107.setTop (mkF m 29 #[.val (.int p0), .val (.int p1), .val (.int (4 : Int32)), .val (.int (4 : Int32)), .unset] [(.int (1 : Int32))])) (fun _ k => XT.iconstV X107.here hx rfl (1 : Int32) (hb hby at_28) rfl k) ?_
      refine own_go (B := T107.setTop (mkF m 33 #[.val (.int p0), .val (.int p1), .val (.int (4 : Int32)), .val (.int (4 : Int32)), .unset] [(.int (1 : Int32))])) (fun _ k => XS.goto X107.here hx rfl (pc0 := 29) (pc' := 33) rfl (hb hby at_29) (by decide) (by decide) k) ?_
      refine own_go (B := T107.setTop (mkF m 35 #[.val (.int p0), .val (.int p1), .val (.int (4 : Int32)), .val (.int (4 : Int32)), .val (.int (1 : Int32))] [])) (fun _ k => XS.istore X107.here hx rfl (hb hby at_33) rfl (l' := #[.val (.int p0), .val (.int p1), .val (.int (4 : Int32)), .val (.int (4 : Int32)), .val (.int (1 : Int32))]) rfl k) ?_
      refine own_go (B := T107.setTop (mkF m 36 #[.val (.int p0), .val (.int p1), .val (.int (4 : Int32)), .val (.int (4 : Int32)), .val (.int (1 : Int32))] [(.int (4 : Int32))])) (fun _ k => XS.iloadN X107.here hx rfl (hb hby at_35) rfl k) ?_
      obtain ⟨_, _, ⟨T108, L108, k108, n108⟩, -, X108, ⟨Lc108, hQ108, l108, y108, z108⟩, st108⟩ := Jvm.LawKit.callS X107 hx (y := (⟨"com/example/oblate/oblate/FrameNeedsReferencePinLaw", "pick", "(I)Lcom/example/oblate/oblate/Frame;"⟩ : MethodName)) hown (mvT hZ (hw _ (List.mem_of_getElem? (i := 5) rfl))) (mvT hZ (hw _ (List.mem_of_getElem? (i := 6) rfl))) (mvT hZ (hw _ (List.mem_of_getElem? (i := 3) rfl))) (mvT hZ (hw _ (List.mem_of_getElem? (i := 7) rfl))) (by decide) (own_back (W := 0) (rm2_4 l Z a0 hw []  A hW h0 x0 ) hZ (hw _ (List.mem_of_getElem? (i := 7) rfl)) (hw _ (List.mem_of_getElem? (i := 3) rfl)) (by decide) (by decide)) (g := (mkF m 36 #[.val (.int p0), .val (.int p1), .val (.int (4 : Int32)), .val (.int (4 : Int32)), .val (.int (1 : Int32))] [(.int (4 : Int32))])) rfl (by rw [hml]; rfl) (argsL := [(.int (4 : Int32))]) (rest := []) (lenOf pd_1 rfl) rfl (by show 2 * 0 + _ ≤ _; exact Nat.le_of_eq rfl) (hb hby at_36) (fun _ _ => ⟨rfl, e107, (by decide : 0 + 0 ≤ _), (by decide : 0 + 0 ≤ _)⟩)
      dsimp only [Pt.U, Pt.locs, Pt.cells, Pt.slots] at X108 l108 y108 z108 st108 hQ108
      subst l108 y108 z108
      obtain ⟨rfl, N108q, e108⟩ := hQ108
      have N108 := Fr.app N107 N108q
      refine own_go (B := T108.setTop (mkF m 39 #[.val (.int p0), .val (.int p1), .val (.int (4 : Int32)), .val (.int (4 : Int32)), .val (.int (1 : Int32))] [(.ref (A 2))])) st108 ?_
      refine own_go (B := T108.setTop (mkF m 40 #[.val (.int p0), .val (.int p1), .val (.int (4 : Int32)), .val (.int (4 : Int32)), .val (.int (1 : Int32))] [(.int (4 : Int32)), (.ref (A 2))])) (fun _ k => XS.iloadN X108.here hx rfl (hb hby at_39) rfl k) ?_
      obtain ⟨_, _, ⟨T109, L109, k109, n109⟩, -, X109, ⟨Lc109, hQ109, l109, y109, z109⟩, st109⟩ := Jvm.LawKit.callS X108 hx (y := (⟨"com/example/oblate/oblate/FrameNeedsReferencePinLaw", "pick", "(I)Lcom/example/oblate/oblate/Frame;"⟩ : MethodName)) hown (mvT hZ (hw _ (List.mem_of_getElem? (i := 5) rfl))) (mvT hZ (hw _ (List.mem_of_getElem? (i := 6) rfl))) (mvT hZ (hw _ (List.mem_of_getElem? (i := 3) rfl))) (mvT hZ (hw _ (List.mem_of_getElem? (i := 7) rfl))) (by decide) (own_back (W := 1) (rm2_4 l Z a0 hw []  A hW h0 x0 ) hZ (hw _ (List.mem_of_getElem? (i := 7) rfl)) (hw _ (List.mem_of_getElem? (i := 3) rfl)) (by decide) (by decide)) (g := (mkF m 40 #[.val (.int p0), .val (.int p1), .val (.int (4 : Int32)), .val (.int (4 : Int32)), .val (.int (1 : Int32))] [(.int (4 : Int32)), (.ref (A 2))])) rfl (by rw [hml]; rfl) (argsL := [(.int (4 : Int32))]) (rest := [(.ref (A 2))]) (lenOf pd_1 rfl) rfl (by show 2 * 0 + _ ≤ _; exact Nat.le_of_eq rfl) (hb hby at_40) (fun _ _ => ⟨rfl, e108, (by decide : 0 + 0 ≤ _), (by decide : 0 + 0 ≤ _)⟩)
      dsimp only [Pt.U, Pt.locs, Pt.cells, Pt.slots] at X109 l109 y109 z109 st109 hQ109
      subst l109 y109 z109
      obtain ⟨rfl, N109q, e109⟩ := hQ109
      have N109 := Fr.app N108 N109q
      refine own_go (B := T109.setTop (mkF m 43 #[.val (.int p0), .val (.int p1), .val (.int (4 : Int32)), .val (.int (4 : Int32)), .val (.int (1 : Int32))] [(.ref (A 2)), (.ref (A 2))])) st109 ?_
      obtain ⟨cq110, kq110, q110a, q110b, q110c⟩ := isOf hZ e109 (E_AER.ext x0)
      obtain ⟨_, _, ⟨T110, L110, k110, n110⟩, -, X110, ⟨Lc110, hQ110, l110, y110, z110⟩, st110⟩ := X109.virtualBack hx (y := (⟨"com/example/oblate/oblate/Frame", "needsReference", "(Lcom/example/oblate/oblate/Frame;)Z"⟩ : MethodName)) (z := (⟨"com/example/oblate/oblate/Frame", "needsReference", "(Lcom/example/oblate/oblate/Frame;)Z"⟩ : MethodName)) hown (mvT hZ (hw _ (List.mem_of_getElem? (i := 13) rfl))) (mvT hZ (hw _ (List.mem_of_getElem? (i := 14) rfl))) (notFace_of_selects (args := #[]) (mvT hZ (hw _ (List.mem_of_getElem? (i := 25) rfl)))) (mvT hZ (hw _ (List.mem_of_getElem? (i := 25) rfl))) (mvT hZ (hw _ (List.mem_of_getElem? (i := 15) rfl))) (by decide) (own_back (W := 0) (rm3_24 l Z a0 hw []  A hW h0 x0 ) hZ (hw _ (List.mem_of_getElem? (i := 17) rfl)) (hw _ (List.mem_of_getElem? (i := 9) rfl)) (by decide) (by decide)) q110a q110c (g := (mkF m 43 #[.val (.int p0), .val (.int p1), .val (.int (4 : Int32)), .val (.int (4 : Int32)), .val (.int (1 : Int32))] [(.ref (A 2)), (.ref (A 2))])) rfl (by rw [hml]; rfl) (Steps.refl _) (argsL := [(.ref (A 2))]) (rest := []) (lenOf pd_2 rfl) rfl (by show 2 * 0 + _ ≤ _; exact Nat.le_of_eq rfl) (hb hby at_43) (fun _ _ => ⟨rfl, e109, (by decide : 0 + 0 ≤ _), (by decide : 0 + 0 ≤ _)⟩)
      dsimp only [Pt.U, Pt.locs, Pt.cells, Pt.slots] at X110 l110 y110 z110 st110 hQ110
      subst l110 y110 z110
      obtain ⟨rfl, N110q, e110⟩ := hQ110
      have N110 := Fr.app N109 N110q
      refine own_go (B := T110.setTop (mkF m 46 #[.val (.int p0), .val (.int p1), .val (.int (4 : Int32)), .val (.int (4 : Int32)), .val (.int (1 : Int32))] [(.int (1 : Int32))])) (fun _ k => st110.trans k) ?_
      refine own_go (B := T110.setTop (mkF m 48 #[.val (.int p0), .val (.int p1), .val (.int (4 : Int32)), .val (.int (4 : Int32)), .val (.int (1 : Int32))] [(.int (1 : Int32)), (.int (1 : Int32))])) (fun _ k => XS.iload X110.here hx rfl (hb hby at_46) rfl k) ?_
      refine own_go (B := T110.setTop (mkF m 51 #[.val (.int p0), .val (.int p1), .val (.int (4 : Int32)), .val (.int (4 : Int32)), .val (.int (1 : Int32))] [])) (fun _ k => XS.icmpNo X110.here hx rfl (hb hby at_48) rfl (by decide) k) ?_
      refine own_go (B := T110.setTop (mkF m 52 #[.val (.int p0), .val (.int p1), .val (.int (4 : Int32)), .val (.int (4 : Int32)), .val (.int (1 : Int32))] [(.int (1 : Int32))])) (fun _ k => XT.iconstV X110.here hx rfl (1 : Int32) (hb hby at_51) rfl k) ?_
      refine own_go (B := T110.setTop (mkF m 56 #[.val (.int p0), .val (.int p1), .val (.int (4 : Int32)), .val (.int (4 : Int32)), .val (.int (1 : Int32))] [(.int (1 : Int32))])) (fun _ k => XS.goto X110.here hx rfl (pc0 := 52) (pc' := 56) rfl (hb hby at_52) (by decide) (by decide) k) ?_
      exact own_ret X110 hx (t := .boolean) hrt rfl (Or.inl ⟨rfl, by simp, _, rfl⟩) (hb hby at_56) hlk ⟨rfl, N110⟩ (by decide) (by decide)
set_option maxRecDepth 65536 in
set_option maxHeartbeats 40000000 in
theorem comes_1 {Post : Tables → Env → Array Value → State → Outcome → State → Prop} (hpost : ∀ tb e args s v u, (limb_1_1.after args s (.returned v) u = true ∧ limb_1_2.after args s (.returned v) u = true ∧ True) → FrameEnd s (.returned v) u (Jvm.fieldLocs frame_1_writes args s ++ Jvm.arrayLocs frame_1_arrays args s ++ Jvm.staticLocs frame_1_statics s) 0 0 → Post tb e args s (.returned v) u) :
    ArmFor flags0 classFile x code maxLocals ret World_1 tables_1 room_1 Calls_1 rest_1 Pre_1 Post := by
  intro l hfl _ _ p e ha hc hk s m args below hf hA hF happ hP
  obtain ⟨hcalls, hrest, hpre⟩ := hP
  obtain ⟨-, -, -, hnamed, -, -, -, hat⟩ := (Spec.applies_iff hf).mp happ
  obtain ⟨hg, hn⟩ := and_e (Cond.before_iff.mp (show (Jvm.Cond.and given_1 narrow_1).before args s = true from hpre))
  obtain ⟨g1a, g1b⟩ := and_e hg
  obtain ⟨g2a, g2b⟩ := and_e g1b
  obtain ⟨w0, w1, rfl⟩ : ∃ w0 w1 : Value, args = #[w0, w1] := by
    have hs : args.size = 2 := by simpa [Cond.value, given_1] using g1a
    obtain ⟨L⟩ := args
    match L, hs with
    | [w0, w1], _ => exact ⟨w0, w1, rfl⟩
  have hw := fun d (hd : d ∈ tables_1) => atoms_spec (ws := Jvm.Cond.code x code maxLocals ret :: tables_1) hat d (List.mem_cons_of_mem _ hd)
  obtain ⟨i0, ei0⟩ := is_v g2a
  obtain rfl : w0 = (.int i0) := Option.some.inj ei0
  obtain ⟨i1, ei1⟩ := is_v g2b
  obtain rfl : w1 = (.int i1) := Option.some.inj ei1
  obtain ⟨u1a, u1b⟩ := and_e hn
  obtain ⟨u2a, u2b⟩ := and_e u1b
  obtain ⟨u3a, u3b⟩ := and_e u2b
  obtain ⟨u4a, u4b⟩ := and_e u3b
  obtain ⟨u5a, u5b⟩ := and_e u4b
  obtain ⟨u6a, u6b⟩ := and_e u5b
  obtain ⟨u7a, u7b⟩ := and_e u6b
  obtain ⟨u8a, u8b⟩ := and_e u7b
  obtain ⟨u9a, u9b⟩ := and_e u8b
  obtain ⟨a_GEODETIC, ev_GEODETIC⟩ := exa_v u1a
  obtain ⟨a_NED, ev_NED⟩ := exa_v u2a
  obtain ⟨a_AER, ev_AER⟩ := exa_v u5a
  obtain ⟨a_ECEF, ev_ECEF⟩ := exa_v u6a
  obtain ⟨a_ENU, ev_ENU⟩ := exa_v u9a
  obtain ⟨n, o, h1, h2, h3, _, L, rfl, ⟨rfl, N⟩, hq⟩ := rm0 l s _ hw tables_1 i0 i1 (fun n => [a_GEODETIC, a_NED, a_AER, a_ECEF, a_ENU].getD n 0) ⟨(Sta.start ev_GEODETIC (Or.inr ⟨(hw _ (List.mem_of_getElem? (i := 9) rfl)), (hw _ (List.mem_of_getElem? (i := 10) rfl))⟩)), (Exa.start ev_GEODETIC u1a), (Sta.start ev_NED (Or.inr ⟨(hw _ (List.mem_of_getElem? (i := 9) rfl)), (hw _ (List.mem_of_getElem? (i := 12) rfl))⟩)), (Exa.start ev_NED u2a), (Sta.start ev_AER (Or.inr ⟨(hw _ (List.mem_of_getElem? (i := 9) rfl)), (hw _ (List.mem_of_getElem? (i := 22) rfl))⟩)), (Exa.start ev_AER u5a), (Sta.start ev_ECEF (Or.inr ⟨(hw _ (List.mem_of_getElem? (i := 9) rfl)), (hw _ (List.mem_of_getElem? (i := 24) rfl))⟩)), (Exa.start ev_ECEF u6a), (Sta.start ev_ENU (Or.inr ⟨(hw _ (List.mem_of_getElem? (i := 9) rfl)), (hw _ (List.mem_of_getElem? (i := 31) rfl))⟩)), (Exa.start ev_ENU u9a), (own_fI ev_GEODETIC u3a), (own_fI ev_NED u4a), (own_fI ev_AER u7a), (own_fI ev_ECEF u8a), (own_fI ev_ENU u9b)⟩ s.heap (own_xr _) p e ha hc hk s m _ below hf ((Spec.applies_iff_loose hf).mp happ).1 ⟨rfl, State.Warmed39.refl s, rfl⟩ trivial
  refine ⟨n, _, h1, h2, h3, hpost _ _ _ _ _ _ ⟨Cond.after_iff.mpr rfl, Cond.after_iff.mpr (eq_i res_at (Term.int_eval (1)) rfl), trivial⟩ ⟨hq.1, hq.2.1, (hq.2.2.sift fun y hy => Or.inr (N y hy)).mono (by decide) (by decide)⟩⟩
theorem main_1_1 : Claimed_1_1 := comes_1 fun _ _ _ _ _ _ h hF => ⟨h.1, hF⟩
theorem main_1_2 : Claimed_1_2 := comes_1 fun _ _ _ _ _ _ h hF => ⟨h.2.1, hF⟩
end Jvm.Pilot.@@N@@
namespace Jvm.Pilot.@@N@@
open Jvm Jvm.ClassFile Sem Op Lib Jvm.Free Jvm.Stand Jvm.Pilot.@@N@@.Jvm.D
/-! MADE BY PROGRAM (witnessworld.py) out of the Statement's table words and the real class files: 15 classes; the members and pool entries that the words name. The judged class is class 1, her method 3. -/
namespace start1
open Jvm.ClassFile
def u (s : String) : CpInfo := .utf8 (stringToUtf16 s)
/-- a pool by its gaps: so many unusable entries, then the entry; so many at the end -/
def gap : Nat → List CpInfo → List CpInfo
  | 0, r => r
  | n + 1, r => .unusable :: gap n r
def poolList (es : List (Nat × CpInfo)) (last : Nat) : List CpInfo := es.foldr (fun e r => gap e.1 (e.2 :: r)) (gap last [])
def pool (es : List (Nat × CpInfo)) (last : Nat) : Array CpInfo := ⟨poolList es last⟩
def fileOf (pool : Array CpInfo) (this : Nat) (attrs : Array Attribute := #[]) (ms : Array MethodInfo := #[]) (fl : Nat := 33) (sup : Nat := 0) (ifs : Array Nat := #[]) (fds : Array FieldInfo := #[]) : ClassFile where
  minorVersion := 0
  majorVersion := 65
  constantPool := pool
  accessFlags := fl
  thisClass := this
  superClass := sup
  interfaces := ifs
  fields := fds
  methods := ms
  attributes := attrs
def plain (name : String) (sup : Option ClassId) : Class where
  name := name
  kind := .ordinary
  loader := none
  accessFlags := 33
  super := sup
  interfaces := #[]
  cf := none
  fields := #[]
  methods := #[]
  instanceTypes := #[]
  staticTypes := #[]
  resolved := #[]
  callSites := []
  init := .initialized
  statics := none
  mirror := none

def pool0 : Array CpInfo := pool [(5, u "<init>"), (0, u "()V"), (1, .class_ 10), (1, u "java/lang/Object")] 113

def k0m0 : Method := { name := "<init>", desc := "()V", sig := { parameters := [], returnType := none }, accessFlags := 1, code := none }
/-- java/lang/Object -/
def k0 : Class := { plain "java/lang/Object" none with
  accessFlags := 33
  interfaces := #[]
  cf := some (fileOf pool0 8 #[] #[{ accessFlags := 1, nameIndex := 5, descriptorIndex := 6, attributes := #[] }] 33 0 #[] #[])
  fields := #[]
  methods := #[k0m0]
  instanceTypes := #[]
  staticTypes := #[]
  resolved := Array.replicate 124 none
  statics := none }

def pool1 : Array CpInfo := pool [(2, .class_ 4), (1, u "java/lang/Object"), (0, u "<init>"), (0, u "()V"), (0, .fieldref 8 9), (0, .class_ 10), (0, .nameAndType 11 12), (0, u "com/example/oblate/oblate/Frame"), (0, u "GEODETIC"), (0, u "Lcom/example/oblate/oblate/Frame;"), (0, .fieldref 8 14), (0, .nameAndType 15 12), (0, u "ECEF"), (0, .fieldref 8 17), (0, .nameAndType 18 12), (0, u "ENU"), (0, .fieldref 8 20), (0, .nameAndType 21 12), (0, u "NED"), (0, .fieldref 8 23), (0, .nameAndType 24 12), (0, u "AER"), (0, .integer 2147483647), (0, .methodref 27 28), (0, .class_ 29), (0, .nameAndType 30 31), (0, u "com/example/oblate/oblate/FrameNeedsReferencePinLaw"), (0, u "isLocalByDoc"), (0, u "(I)Z"), (0, .methodref 27 33), (0, .nameAndType 34 35), (0, u "pick"), (0, u "(I)Lcom/example/oblate/oblate/Frame;"), (0, .methodref 8 37), (0, .nameAndType 38 39), (0, u "needsReference"), (0, u "(Lcom/example/oblate/oblate/Frame;)Z"), (3, u "law"), (0, u "(II)Z")] 2

def k1m0 : Method := { name := "<init>", desc := "()V", sig := { parameters := [], returnType := none }, accessFlags := 2, code := none }
def k1c1 : Code := { maxStack := 2, maxLocals := 1, code := method_2_code, exceptionTable := #[], attributes := #[] }
def k1m1 : Method := { name := "pick", desc := "(I)Lcom/example/oblate/oblate/Frame;", sig := { parameters := [.int], returnType := some (.object "com/example/oblate/oblate/Frame") }, accessFlags := 10, code := some k1c1 }
def k1c2 : Code := { maxStack := 2, maxLocals := 1, code := method_3_code, exceptionTable := #[], attributes := #[] }
def k1m2 : Method := { name := "isLocalByDoc", desc := "(I)Z", sig := { parameters := [.int], returnType := some .boolean }, accessFlags := 10, code := some k1c2 }
def k1c3 : Code := { maxStack := 2, maxLocals := 5, code := code, exceptionTable := #[], attributes := #[] }
def k1m3 : Method := { name := "law", desc := "(II)Z", sig := { parameters := [.int, .int], returnType := some .boolean }, accessFlags := 9, code := some k1c3 }
/-- com/example/oblate/oblate/FrameNeedsReferencePinLaw -/
def k1 : Class := { plain "com/example/oblate/oblate/FrameNeedsReferencePinLaw" (some 0) with
  accessFlags := 49
  interfaces := #[]
  cf := some (fileOf pool1 27 #[] #[{ accessFlags := 2, nameIndex := 5, descriptorIndex := 6, attributes := #[] }, { accessFlags := 10, nameIndex := 34, descriptorIndex := 35, attributes := #[] }, { accessFlags := 10, nameIndex := 30, descriptorIndex := 31, attributes := #[] }, { accessFlags := 9, nameIndex := 43, descriptorIndex := 44, attributes := #[] }] 49 2 #[] #[])
  fields := #[]
  methods := #[k1m0, k1m1, k1m2, k1m3]
  instanceTypes := #[]
  staticTypes := #[]
  resolved := Array.replicate 47 none
  statics := none }

def pool2 : Array CpInfo := pool [(1, .class_ 2), (0, u "java/lang/constant/Constable"), (0, .class_ 4), (0, u "java/lang/Object")] 6

/-- java/lang/constant/Constable -/
def k2 : Class := { plain "java/lang/constant/Constable" (some 0) with
  accessFlags := 1537
  interfaces := #[]
  cf := some (fileOf pool2 1 #[] #[] 1537 3 #[] #[])
  fields := #[]
  methods := #[]
  instanceTypes := #[]
  staticTypes := #[]
  resolved := Array.replicate 11 none
  statics := none }

def pool3 : Array CpInfo := pool [(1, .class_ 2), (0, u "java/lang/Comparable"), (0, .class_ 4), (0, u "java/lang/Object")] 7

/-- java/lang/Comparable -/
def k3 : Class := { plain "java/lang/Comparable" (some 0) with
  accessFlags := 1537
  interfaces := #[]
  cf := some (fileOf pool3 1 #[] #[] 1537 3 #[] #[])
  fields := #[]
  methods := #[]
  instanceTypes := #[]
  staticTypes := #[]
  resolved := Array.replicate 12 none
  statics := none }

def pool4 : Array CpInfo := pool [(1, .class_ 2), (0, u "java/io/Serializable"), (0, .class_ 4), (0, u "java/lang/Object")] 2

/-- java/io/Serializable -/
def k4 : Class := { plain "java/io/Serializable" (some 0) with
  accessFlags := 1537
  interfaces := #[]
  cf := some (fileOf pool4 1 #[] #[] 1537 3 #[] #[])
  fields := #[]
  methods := #[]
  instanceTypes := #[]
  staticTypes := #[]
  resolved := Array.replicate 7 none
  statics := none }

def pool5 : Array CpInfo := pool [(2, .class_ 4), (1, u "java/lang/Enum"), (0, u "name"), (0, u "Ljava/lang/String;"), (2, u "ordinal"), (0, u "I"), (1, .class_ 14), (1, u "java/lang/Object"), (4, u "hash"), (86, .class_ 108), (1, u "java/lang/Enum$EnumDesc"), (2, .class_ 112), (0, u "java/lang/constant/Constable"), (0, .class_ 114), (0, u "java/lang/Comparable"), (0, .class_ 116), (0, u "java/io/Serializable")] 87

/-- java/lang/Enum -/
def k5 : Class := { plain "java/lang/Enum" (some 0) with
  accessFlags := 1057
  interfaces := #[2, 3, 4]
  cf := some (fileOf pool5 2 #[.nestMembers #[106]] #[] 1057 12 #[111, 113, 115] #[{ accessFlags := 18, nameIndex := 5, descriptorIndex := 6, attributes := #[] }, { accessFlags := 18, nameIndex := 9, descriptorIndex := 10, attributes := #[] }, { accessFlags := 2, nameIndex := 19, descriptorIndex := 10, attributes := #[] }])
  fields := #[{ name := "name", type := (.object "java/lang/String"), accessFlags := 18, slot := 0, constantValue := 0 }, { name := "ordinal", type := .int, accessFlags := 18, slot := 1, constantValue := 0 }, { name := "hash", type := .int, accessFlags := 2, slot := 2, constantValue := 0 }]
  methods := #[]
  instanceTypes := #[(.object "java/lang/String"), .int, .int]
  staticTypes := #[]
  resolved := Array.replicate 204 none
  statics := none }

def pool6 : Array CpInfo := pool [(1, .class_ 2), (0, u "com/example/oblate/oblate/Frame"), (2, u "GEODETIC"), (0, u "Lcom/example/oblate/oblate/Frame;"), (2, u "ECEF"), (2, u "ENU"), (2, u "NED"), (2, u "AER"), (2, u "$VALUES"), (0, u "[Lcom/example/oblate/oblate/Frame;"), (6, .class_ 31), (1, u "java/lang/Enum"), (6, .fieldref 1 39), (0, .nameAndType 40 41), (0, u "local"), (0, u "Z"), (10, u "fields"), (0, u "[Ljava/lang/String;"), (2, u "quantities"), (0, u "[Lcom/example/oblate/oblate/Quantity;"), (189, .class_ 248), (0, u "com/example/oblate/oblate/Frame$1"), (19, .class_ 269), (0, u "com/example/oblate/oblate/Frame$2"), (4, .class_ 275), (0, u "com/example/oblate/oblate/Frame$3"), (10, u "KIND"), (0, u "Ljava/lang/String;"), (14, u "needsReference"), (0, u "(Lcom/example/oblate/oblate/Frame;)Z")] 67

def k6c0 : Code := { maxStack := 1, maxLocals := 2, code := prog_11_method_8_code, exceptionTable := #[], attributes := #[] }
def k6m0 : Method := { name := "needsReference", desc := "(Lcom/example/oblate/oblate/Frame;)Z", sig := { parameters := [(.object "com/example/oblate/oblate/Frame")], returnType := some .boolean }, accessFlags := 0, code := some k6c0 }
/-- com/example/oblate/oblate/Frame -/
def k6 : Class := { plain "com/example/oblate/oblate/Frame" (some 5) with
  accessFlags := 16416
  interfaces := #[]
  cf := some (fileOf pool6 1 #[.nestMembers #[274, 268, 247]] #[{ accessFlags := 0, nameIndex := 302, descriptorIndex := 303, attributes := #[] }] 16416 29 #[] #[{ accessFlags := 16409, nameIndex := 5, descriptorIndex := 6, attributes := #[] }, { accessFlags := 16409, nameIndex := 9, descriptorIndex := 6, attributes := #[] }, { accessFlags := 16409, nameIndex := 12, descriptorIndex := 6, attributes := #[] }, { accessFlags := 16409, nameIndex := 15, descriptorIndex := 6, attributes := #[] }, { accessFlags := 16409, nameIndex := 18, descriptorIndex := 6, attributes := #[] }, { accessFlags := 24, nameIndex := 286, descriptorIndex := 287, attributes := #[] }, { accessFlags := 18, nameIndex := 40, descriptorIndex := 41, attributes := #[] }, { accessFlags := 18, nameIndex := 52, descriptorIndex := 53, attributes := #[] }, { accessFlags := 18, nameIndex := 56, descriptorIndex := 57, attributes := #[] }, { accessFlags := 4122, nameIndex := 21, descriptorIndex := 22, attributes := #[] }])
  fields := #[{ name := "GEODETIC", type := (.object "com/example/oblate/oblate/Frame"), accessFlags := 16409, slot := 0, constantValue := 0 }, { name := "ECEF", type := (.object "com/example/oblate/oblate/Frame"), accessFlags := 16409, slot := 1, constantValue := 0 }, { name := "ENU", type := (.object "com/example/oblate/oblate/Frame"), accessFlags := 16409, slot := 2, constantValue := 0 }, { name := "NED", type := (.object "com/example/oblate/oblate/Frame"), accessFlags := 16409, slot := 3, constantValue := 0 }, { name := "AER", type := (.object "com/example/oblate/oblate/Frame"), accessFlags := 16409, slot := 4, constantValue := 0 }, { name := "KIND", type := (.object "java/lang/String"), accessFlags := 24, slot := 5, constantValue := 0 }, { name := "local", type := .boolean, accessFlags := 18, slot := 3, constantValue := 0 }, { name := "fields", type := (.array (.object "java/lang/String")), accessFlags := 18, slot := 4, constantValue := 0 }, { name := "quantities", type := (.array (.object "com/example/oblate/oblate/Quantity")), accessFlags := 18, slot := 5, constantValue := 0 }, { name := "$VALUES", type := (.array (.object "com/example/oblate/oblate/Frame")), accessFlags := 4122, slot := 6, constantValue := 0 }]
  methods := #[k6m0]
  instanceTypes := #[(.object "java/lang/String"), .int, .int, .boolean, (.array (.object "java/lang/String")), (.array (.object "com/example/oblate/oblate/Quantity"))]
  staticTypes := #[(.object "com/example/oblate/oblate/Frame"), (.object "com/example/oblate/oblate/Frame"), (.object "com/example/oblate/oblate/Frame"), (.object "com/example/oblate/oblate/Frame"), (.object "com/example/oblate/oblate/Frame"), (.object "java/lang/String"), (.array (.object "com/example/oblate/oblate/Frame"))]
  resolved := Array.replicate 371 none
  statics := some 0 }

def pool7 : Array CpInfo := pool [(2, .class_ 4), (1, u "com/example/oblate/oblate/Frame"), (35, .class_ 41), (0, u "com/example/oblate/oblate/Frame$1")] 11

/-- com/example/oblate/oblate/Frame$1 -/
def k7 : Class := { plain "com/example/oblate/oblate/Frame$1" (some 6) with
  accessFlags := 16432
  interfaces := #[]
  cf := some (fileOf pool7 40 #[.nestHost 2] #[] 16432 2 #[] #[])
  fields := #[]
  methods := #[]
  instanceTypes := #[(.object "java/lang/String"), .int, .int, .boolean, (.array (.object "java/lang/String")), (.array (.object "com/example/oblate/oblate/Quantity"))]
  staticTypes := #[]
  resolved := Array.replicate 53 none
  statics := none }

def pool8 : Array CpInfo := pool [(2, .class_ 4), (1, u "com/example/oblate/oblate/Frame"), (35, .class_ 41), (0, u "com/example/oblate/oblate/Frame$2")] 11

/-- com/example/oblate/oblate/Frame$2 -/
def k8 : Class := { plain "com/example/oblate/oblate/Frame$2" (some 6) with
  accessFlags := 16432
  interfaces := #[]
  cf := some (fileOf pool8 40 #[.nestHost 2] #[] 16432 2 #[] #[])
  fields := #[]
  methods := #[]
  instanceTypes := #[(.object "java/lang/String"), .int, .int, .boolean, (.array (.object "java/lang/String")), (.array (.object "com/example/oblate/oblate/Quantity"))]
  staticTypes := #[]
  resolved := Array.replicate 53 none
  statics := none }

def pool9 : Array CpInfo := pool [(2, .class_ 4), (1, u "com/example/oblate/oblate/Frame"), (35, .class_ 41), (0, u "com/example/oblate/oblate/Frame$3")] 11

/-- com/example/oblate/oblate/Frame$3 -/
def k9 : Class := { plain "com/example/oblate/oblate/Frame$3" (some 6) with
  accessFlags := 16432
  interfaces := #[]
  cf := some (fileOf pool9 40 #[.nestHost 2] #[] 16432 2 #[] #[])
  fields := #[]
  methods := #[]
  instanceTypes := #[(.object "java/lang/String"), .int, .int, .boolean, (.array (.object "java/lang/String")), (.array (.object "com/example/oblate/oblate/Quantity"))]
  staticTypes := #[]
  resolved := Array.replicate 53 none
  statics := none }

def pool10 : Array CpInfo := pool [(1, u "java/lang/Cloneable"), (0, .class_ 1), (0, u "java/lang/Object"), (0, .class_ 3)] 3

/-- java/lang/Cloneable -/
def k10 : Class := { plain "java/lang/Cloneable" (some 0) with
  accessFlags := 1537
  interfaces := #[]
  cf := some (fileOf pool10 2 #[] #[] 1537 4 #[] #[])
  fields := #[]
  methods := #[]
  instanceTypes := #[]
  staticTypes := #[]
  resolved := Array.replicate 8 none
  statics := none }

/-- the primitive byte -/
def k11 : Class := { plain "byte" none with kind := .primitive 'B', accessFlags := 0x411 }
/-- [B -/
def k12 : Class := { plain "[B" (some 0) with kind := .array 11 .byte, interfaces := #[10, 4], accessFlags := 1041 }

/-- the primitive int -/
def k13 : Class := { plain "int" none with kind := .primitive 'I', accessFlags := 0x411 }
/-- [I -/
def k14 : Class := { plain "[I" (some 0) with kind := .array 13 .int, interfaces := #[10, 4], accessFlags := 1041 }

def heap : Heap := #[{ cls := 6, slots := #[.ref 1, .ref 4, .ref 5, .ref 2, .ref 3, .null, .null], vm := .statics 6 },
  { cls := 7, slots := #[.null, .int 0, .int 0, .int 0, .null, .null], vm := .none },
  { cls := 8, slots := #[.null, .int 0, .int 0, .int 1, .null, .null], vm := .none },
  { cls := 9, slots := #[.null, .int 0, .int 0, .int 1, .null, .null], vm := .none },
  { cls := 6, slots := #[.null, .int 0, .int 0, .int 0, .null, .null], vm := .none },
  { cls := 6, slots := #[.null, .int 0, .int 0, .int 1, .null, .null], vm := .none }]
def classes : Array Class := #[k0, k1, k2, k3, k4, k5, k6, k7, k8, k9, k10, k11, k12, k13, k14]
def interned : List (Array UInt16 × Addr) := []
def slotsUsed : Nat := 37
def theMethod : MethodId := ⟨1, 3⟩
def args0 : Array Value := #[.int 5, .int 7]
def aboutOver (below : List Frame) : State where
  vm := { classes := classes, interned := interned.toArray }
  heap := heap
  slotsUsed := slotsUsed
  threads := #[{ frames := .invoking theMethod args0 :: below }]
def below0 : List Frame := [.native { method := ⟨0, 0⟩, args := #[] }]
def about1 : State := aboutOver below0
def p0 : Program := .bare "" "" ""
def e0 : Env := launch0.env 0 0 0
theorem w_frames : about1.frames = Frame.invoking theMethod args0 :: below0 := rfl
set_option maxRecDepth 65536 in
theorem w_args : argsFit about1.vm theMethod args0 = true := by decide +kernel
set_option maxRecDepth 65536 in
theorem w_heap : heapFits about1 = true := by decide +kernel
set_option maxRecDepth 65536 in
theorem w_runnable : about1.curStatus? = some .runnable := by decide +kernel
set_option maxRecDepth 65536 in
theorem w_alone : about1.alone = true := by decide +kernel
set_option maxRecDepth 65536 in
theorem w_named : about1.methodNamed? x = some theMethod := by decide +kernel
set_option maxRecDepth 65536 in
theorem w_hears : about1.hears theMethod below0 = true := by decide +kernel
set_option maxRecDepth 65536 in
theorem w_ripe : about1.ripe theMethod args0 below0 = true := by decide +kernel
theorem w_running : about1.status = .running := rfl
set_option maxRecDepth 65536 in
theorem w_room : about1.hasRoom e0.platform room_1 = true :=
  launch0.hasRoom_least _ room_1 (by decide +kernel) (by decide +kernel) (by decide +kernel) (by decide +kernel) (by decide +kernel) (by decide +kernel)
theorem allAtoms_all (ts : List Jvm.Cond) (a : Array Jvm.Value) (st : Jvm.State) : (allAtoms ts).before a st = ts.all (fun c => c.before a st) := by
  induction ts with
  | nil => rfl
  | cons c t ih =>
    show (Jvm.Cond.and c (allAtoms t)).before a st = _
    rw [Jvm.Cond.before_and, ih, List.all_cons]
def words1 : List Jvm.Cond := Jvm.Cond.code x code maxLocals ret :: tables_1
/-- a 'code' word, met by the world's own term for the bytes: nothing is compared byte by byte -/
theorem code_word {y : MethodName} {bytes : ByteArray} {mx : Nat} {rt : Option FieldType} {a : Array Value} {s : State} {m : MethodId} {meth : Method} {c : Code} (h1 : s.methodNamed? y = some m) (h2 : s.vm.method? m = some meth) (h3 : meth.code = some c) (h4 : c.code = bytes)
    (h5 : (c.maxLocals == mx && c.exceptionTable.isEmpty && decide (c.maxStack ≤ mostOperands) && decide (meth.sig.returnType = rt) && !meth.locks && decide (parseMethodDescriptor y.desc = some meth.sig)) = true) : (Jvm.Cond.code y bytes mx rt).before a s = true := by
  simp only [Bool.and_eq_true, beq_iff_eq, Bool.not_eq_true', decide_eq_true_eq] at h5
  obtain ⟨⟨⟨⟨⟨g1, g2⟩, g3⟩, g4⟩, g5⟩, g6⟩ := h5
  simp [Cond.before, Cond.holds, Cond.value, h1, h2, h3, h4, g1, g2, g3, g4, g5, g6]
def isCode : Jvm.Cond → Bool
  | .code _ _ _ _ => true
  | _ => false
theorem all_split {L : List Jvm.Cond} {P : Jvm.Cond → Bool} (h1 : L.all (fun c => isCode c || P c) = true) (h2 : ∀ c ∈ L.filter isCode, P c = true) : L.all P = true := by
  refine List.all_eq_true.mpr fun c hc => ?_
  have h := List.all_eq_true.mp h1 c hc
  rcases Bool.eq_false_or_eq_true (isCode c) with hi | hi
  · exact h2 c (List.mem_filter.mpr ⟨hc, hi⟩)
  · simpa [hi] using h
set_option maxRecDepth 65536 in
theorem w_c0 : (Jvm.Cond.code x code maxLocals ret).before args0 about1 = true := code_word (m := ⟨1, 3⟩) (meth := k1m3) (c := k1c3) (by decide +kernel) rfl rfl rfl (by decide +kernel)
set_option maxRecDepth 65536 in
theorem w_c1 : (Jvm.Cond.code ({ cls := "com/example/oblate/oblate/FrameNeedsReferencePinLaw", name := "isLocalByDoc", desc := "(I)Z" } : Jvm.MethodName) method_3_code (1 : Nat) (Option.some Jvm.ClassFile.FieldType.boolean)).before args0 about1 = true := code_word (m := ⟨1, 2⟩) (meth := k1m2) (c := k1c2) (by decide +kernel) rfl rfl rfl (by decide +kernel)
set_option maxRecDepth 65536 in
theorem w_c2 : (Jvm.Cond.code ({ cls := "com/example/oblate/oblate/FrameNeedsReferencePinLaw", name := "pick", desc := "(I)Lcom/example/oblate/oblate/Frame;" } : Jvm.MethodName) method_2_code (1 : Nat) (Option.some (Jvm.ClassFile.FieldType.object "com/example/oblate/oblate/Frame"))).before args0 about1 = true := code_word (m := ⟨1, 1⟩) (meth := k1m1) (c := k1c1) (by decide +kernel) rfl rfl rfl (by decide +kernel)
set_option maxRecDepth 65536 in
theorem w_c3 : (Jvm.Cond.code ({ cls := "com/example/oblate/oblate/Frame", name := "needsReference", desc := "(Lcom/example/oblate/oblate/Frame;)Z" } : Jvm.MethodName) prog_11_method_8_code (2 : Nat) (Option.some Jvm.ClassFile.FieldType.boolean)).before args0 about1 = true := code_word (m := ⟨6, 0⟩) (meth := k6m0) (c := k6c0) (by decide +kernel) rfl rfl rfl (by decide +kernel)
def codes1 : List Jvm.Cond := [Jvm.Cond.code x code maxLocals ret, Jvm.Cond.code ({ cls := "com/example/oblate/oblate/FrameNeedsReferencePinLaw", name := "isLocalByDoc", desc := "(I)Z" } : Jvm.MethodName) method_3_code (1 : Nat) (Option.some Jvm.ClassFile.FieldType.boolean), Jvm.Cond.code ({ cls := "com/example/oblate/oblate/FrameNeedsReferencePinLaw", name := "pick", desc := "(I)Lcom/example/oblate/oblate/Frame;" } : Jvm.MethodName) method_2_code (1 : Nat) (Option.some (Jvm.ClassFile.FieldType.object "com/example/oblate/oblate/Frame")), Jvm.Cond.code ({ cls := "com/example/oblate/oblate/Frame", name := "needsReference", desc := "(Lcom/example/oblate/oblate/Frame;)Z" } : Jvm.MethodName) prog_11_method_8_code (2 : Nat) (Option.some Jvm.ClassFile.FieldType.boolean)]
set_option maxRecDepth 65536 in
theorem codes_eq : words1.filter isCode = codes1 := rfl
theorem w_codes : ∀ c ∈ words1.filter isCode, c.before args0 about1 = true := by
  rw [codes_eq]
  intro c hc
  simp only [codes1, List.mem_cons, List.not_mem_nil, or_false] at hc
  rcases hc with rfl | rfl | rfl | rfl
  · exact w_c0
  · exact w_c1
  · exact w_c2
  · exact w_c3
set_option maxRecDepth 65536 in
theorem w_t1 : (words1.take 24).all (fun c => isCode c || c.before args0 about1) = true := by decide +kernel
set_option maxRecDepth 65536 in
theorem w_t2 : (words1.drop 24).all (fun c => isCode c || c.before args0 about1) = true := by decide +kernel
theorem w_tables : (allAtoms (Jvm.Cond.code x code maxLocals ret :: tables_1)).before args0 about1 = true := by
  rw [allAtoms_all]
  show words1.all (fun c => c.before args0 about1) = true
  refine all_split ?_ w_codes
  rw [← List.take_append_drop 24 words1, List.all_append, w_t1, w_t2]
  rfl
set_option maxRecDepth 65536 in
theorem w_case : (Jvm.Cond.and given_1 narrow_1).before args0 about1 = true := by decide +kernel
theorem w_applies : (headSpec (Jvm.Cond.code x code maxLocals ret :: tables_1) room_1).applies x e0.platform about1 = true :=
  (Spec.applies_iff w_frames).mpr ⟨w_running, w_runnable, w_alone, w_named, w_hears, w_ripe, w_room, w_tables⟩
theorem atStart : AtStart classFile x code maxLocals ret World_1 tables_1 room_1 Calls_1 rest_1 Pre_1 launch0 p0 e0 about1 theMethod args0 below0 :=
  ⟨lists_1, trivial, launch0.admits_env _ _ _, launch0.least_env, fairChoices_fair.cas, fairChoices_fair.clock, w_frames, w_args, w_heap, w_applies, trivial, trivial, w_case⟩
end start1
theorem witness_1 : WitnessClaimed_1 := ⟨start1.p0, start1.e0, start1.about1, start1.theMethod, start1.args0, start1.below0, start1.atStart⟩
end Jvm.Pilot.@@N@@
