import Derived.Test.Qxb6628003aFmtBase
namespace Go.Proofs.Qxb6628003aFmt
open Go.RowKit Go.Extern.Stop Go.Stop Go.Extern Go.Lib

theorem wpList_load_row_g {P : Program} {ops : Array Oper} {rest : List Oper} {o : Oper} {a : Act} {w : World} {Q : Exit → Act → World → Prop} (hw : Region.wanted o (yielded ops a.tmps) = true) (ty : TypeId) (x : Operand) (ho : o.op = .load ty x)
    (g : Nat) (hx : a.eval x = .pointer (some ⟨g, 0, none⟩)) (t : TypeId) (cs : Array Value) (fr : Nat × Nat) (d : TypeDesc) (hg : w.heap[g]? = some (.cells cs t fr))
    (hu : P.underlying ty = some d) (hd : (match d with | .struct _ | .array _ _ => true | _ => false) = true) (hi : (P.info? ty).map (·.size) = some cs.size)
    (h : wpList P ops Q rest (a.put o.dst (.agg cs)) w) : wpList P ops Q (o :: rest) a w := by
  unfold wpList
  rw [if_pos hw]
  exact .inl (wp_load_row ty x ho g hx t cs fr d hg hu hd hi h)

theorem rowP_full (f : Nat → Value) (D : List UInt8) (c : Array Value) (hD : D.length = 32) (hs : c.size = 32) (hc : ∀ i, i < 32 → c[i]? = some (Hx.rowP f 0 D i)) : c = bcells D := by
  apply Array.ext
  · rw [hs, bcells_size, hD]
  · intro i h1 h2
    have hi : i < 32 := by omega
    have e1 := hc i hi
    have e2 := bcells_at D i (by omega)
    rw [Array.getElem?_eq_getElem h1] at e1
    rw [Array.getElem?_eq_getElem h2] at e2
    have e3 : Hx.rowP f 0 D i = .int .u8 ((D[i]'(by omega)).toNat : Int) := by
      unfold Hx.rowP
      rw [if_pos ⟨Nat.zero_le _, by omega⟩, Nat.sub_zero, List.getElem?_eq_getElem (by omega)]
      rfl
    rw [e3] at e1
    rw [Option.some.inj e1, Option.some.inj e2]

theorem decode_call (s : ByteArray) (ev : Value) (w : World) (cap : Nat) (h64 : s.size = 64) (hE : w.cell? ⟨0, 0, none⟩ = some ev) (Z : Array Value) (hZ : Z = bcells (List.replicate 32 0)) :
    Calls Tryf.prog 14 #[.slice (some ⟨w.heap.size + 1, 0, none⟩) 32 32, .slice (some ⟨w.heap.size + 1 + 1, 0, none⟩) 64 cap]
      (((w.alloc (.cells Z 23)).alloc (.cells Z 23)).alloc (.cells (bytesRow s cap) 5 ((bytesRow s cap).size, (bytesRow s cap).size + 1))).drew
      fun e w2 => e = .returned (.tuple #[.int .i64 ((Hx.decode s.data.toList).1.length : Int), Hx.errVal 45 ev (Hx.decode s.data.toList).2]) ∧
        w2.heap[w.heap.size]? = some (.cells Z 23 (0, 0)) ∧ w2.rowIs (w.heap.size + 1) 23 32 (Hx.rowP (fun _ => .int .u8 0) 0 (Hx.decode s.data.toList).1) ∧ w.heap.size + 1 + 1 < w2.heap.size ∧ Below w.heap.size w w2 := by
  have hgl : 0 < w.heap.size := World.block_lt_of_cell? w ⟨0, 0, none⟩ hE
  have hsz : ((w.alloc (.cells Z 23)).alloc (.cells Z 23)).heap.size = w.heap.size + 1 + 1 := by simp
  have hZs : Z.size = 32 := by rw [hZ, bcells_size]; simp
  have hZi : ∀ i, i < Z.size → Z[i]? = some (.int .u8 0) := by
    intro i hi
    rw [hZ]
    rw [bcells_at _ i (by rw [List.length_replicate]; omega), List.getElem_replicate]
    rfl
  have hB : ∀ o, Below w.heap.size w (((w.alloc (.cells Z 23)).alloc (.cells Z 23)).alloc o).drew := fun o => ((((Below.refl _ w).alloc (Nat.le_refl _) _).alloc (by simp) _).alloc (by simp; omega) o).drew
  have hrow0 : ∀ o, (((w.alloc (.cells Z 23)).alloc (.cells Z 23)).alloc o).drew.rowIs (w.heap.size + 1) 23 32 (fun _ => .int .u8 0) := fun o => by
    have := ((World.rowIs_alloc (w.alloc (.cells Z 23)) Z 23 (fun _ => .int .u8 0) hZi).alloc o).drew
    rw [hZs] at this
    simpa using this
  have hc := Tryf.hex_Decode_tag 23 (w.heap.size + 1) 0 32 32 32 (fun _ => .int .u8 0) (w.heap.size + 1 + 1) 0 64 cap (Hx.numsOf s) (((w.alloc (.cells Z 23)).alloc (.cells Z 23)).alloc (.cells (bytesRow s cap) 5 ((bytesRow s cap).size, (bytesRow s cap).size + 1))).drew ev (by rw [Hx.numsOf_length, h64]) (fun i _ => Hx.numsOf_range s i)
    (fun i hi => by
      show (((w.alloc (.cells Z 23)).alloc (.cells Z 23)).alloc _).cell? _ = _
      rw [← hsz, Nat.zero_add, World.cell?_alloc_mark, bytesRow_at s _ i (by show i < s.size; rw [h64]; exact hi), Hx.numsOf_at s i (by show i < s.size; rw [h64]; exact hi)])
    (hrow0 _) (by omega) (by omega) (by omega) (by omega) (((hB _).cell (p := ⟨0, 0, none⟩) hgl).trans hE) (by omega)
  rw [Hx.bytesOf_numsOf] at hc
  refine hc.mono ?_
  rintro e w2 ⟨rfl, hrow', hgrow⟩
  refine ⟨rfl, ?_, hrow', ?_, (hB _).grown hgrow (by simp; omega) (fun k hk => by cases hk; omega)⟩
  · rw [hgrow.block w.heap.size (by simp; omega) (by simp)]
    show (((w.alloc (.cells Z 23)).alloc (.cells Z 23)).alloc _).heap[w.heap.size]? = _
    rw [Below.heap_alloc _ _ _ (by simp; omega), Below.heap_alloc _ _ _ (by simp)]
    exact heap_alloc_last w _
  · have := hgrow.size
    simp at this
    omega

theorem results_parse {w1 : World} {g : Nat} {Z : Array Value} {tmps : Array Value} (v : Value) (hZ1 : Arr32 Z) (hg : w1.heap[g]? = some (.cells Z 23 (0, 0))) (h2 : tmps.getD 2 undef = .pointer (some ⟨g, 0, none⟩)) (h3 : tmps.getD 3 undef = v) :
    (results Tryf.f10 tmps).run Tryf.prog w1 = .ok (.tuple #[.agg Z, v]) w1 := by
  rw [results_cell_tmp Tryf.results10]
  have hl := run_loadVar_row (P := Tryf.prog) w1 g 23 23 Z (0, 0) _ hg Tryf.underlying23 rfl (by rw [hZ1.1]; exact size23)
  rw [h2, h3]
  show ((loadVar 23 ⟨g, 0, none⟩).run Tryf.prog _).andThen _ = _
  rw [hl]
  rfl

set_option maxHeartbeats 400000 in
theorem parse_bad (F : Interp) (s : ByteArray) (ev : Value) (w : World) (hF : F.answers w.tape) (h64 : s.size = 64) (hE : w.cell? ⟨0, 0, none⟩ = some ev) (D1 : List UInt8) (c : UInt8) (hD : Hx.decode s.data.toList = (D1, .bad c)) :
    Calls Tryf.prog 10 #[.string s] w fun e w' => ∃ z x, Arr32 z ∧ e = .returned (.tuple #[.agg z, .iface 46 x]) ∧ Below w.heap.size w w' := by
  obtain ⟨Z, hZ⟩ : ∃ Z, Z = zlit := ⟨_, rfl⟩
  have hZ1 : Arr32 Z := by rw [hZ]; exact arr32_zlit
  have hc := fun cap => decode_call s ev w cap h64 hE Z (by rw [hZ]; exact zlit_eq)
  rw [hD] at hc
  have HC : Hid _ := hc
  clear hc hD
  unfold zlit at hZ
  have HZ : Hid _ := hZ
  clear hZ
  have hcv := fun w => run_bytes_of_string (P := Tryf.prog) w 9 28 5 s Tryf.underlying9 Tryf.underlying28 Tryf.underlying5
  go_enter Tryf.func10, Tryf.ntmps10
  go_wp2_with fail
  rw [← HZ.out]
  refine Calls.mono (HC.out _) ?_
  clear HC
  rintro e w2 ⟨rfl, hg, _, hlt, hB⟩
  simp only [Hx.errVal]
  clear hcv
  have hF2 : F.answers w2.tape := by rw [hB.tape]; exact hF
  go_wp2_with fail
  rw [← HZ.out]
  clear HZ
  refine (errorf1 F _ _ (by exact hF2) (by go_simp)).mono ?_
  rintro e w3 ⟨x, rfl, hb3⟩
  have hg3 : w3.heap[w.heap.size]? = some (.cells Z 23 (0, 0)) := by
    rw [hb3.block _ (by simp; omega), Below.heap_alloc _ _ _ (by omega)]
    exact hg
  have hB3 : Below w.heap.size w w3 := (hB.alloc (by omega) _).trans (hb3.mono (by simp; omega))
  clear hb3
  go_wp2_with (refine wpList_store_row rfl 23 _ _ rfl w.heap.size Z rfl rfl 23 Z hg3 (by rw [hZ1.1]; exact size23) rfl hZ1.2 ?_)
  exact bodyPost_ret (v := .tuple #[.agg Z, .iface 46 x]) (results_parse _ hZ1 (setRow_heap w3 w.heap.size Z Z 23 (0, 0) hg3) rfl rfl) rfl ⟨Z, x, hZ1, rfl, below_setRow hB3 (Nat.le_refl _) Z⟩

set_option maxHeartbeats 400000 in
theorem parse_upper (F : Interp) (s : ByteArray) (ev : Value) (w : World) (hF : F.answers w.tape) (h64 : s.size = 64) (hE : w.cell? ⟨0, 0, none⟩ = some ev) (D1 : List UInt8) (hD : Hx.decode s.data.toList = (D1, .ok)) (hl : D1.length = 32)
    (hne : ((⟨(Hx.encode D1).toArray⟩ : ByteArray).toList == s.toList) = false) :
    Calls Tryf.prog 10 #[.string s] w fun e w' => ∃ z x, Arr32 z ∧ e = .returned (.tuple #[.agg z, .iface 46 x]) ∧ Below w.heap.size w w' := by
  obtain ⟨Z, hZ⟩ : ∃ Z, Z = zlit := ⟨_, rfl⟩
  have hZ1 : Arr32 Z := by rw [hZ]; exact arr32_zlit
  have hc := fun cap => decode_call s ev w cap h64 hE Z (by rw [hZ]; exact zlit_eq)
  rw [hD] at hc
  have HC : Hid _ := hc
  clear hc hD
  unfold zlit at hZ
  have HZ : Hid _ := hZ
  clear hZ
  have hcv := fun w => run_bytes_of_string (P := Tryf.prog) w 9 28 5 s Tryf.underlying9 Tryf.underlying28 Tryf.underlying5
  go_enter Tryf.func10, Tryf.ntmps10
  go_wp2_with fail
  rw [← HZ.out]
  refine Calls.mono (HC.out _) ?_
  clear HC
  rintro e w2 ⟨rfl, hg, ⟨c, hcb, hcs, hci⟩, hlt, hB⟩
  have hcD := rowP_full _ D1 c hl hcs hci
  subst hcD
  simp only [Hx.errVal]
  clear hcv hci
  have hF2 : F.answers w2.tape := by rw [hB.tape]; exact hF
  go_wp2_with (refine wpList_load_row_g rfl 23 _ rfl (w.heap.size + 1) rfl 23 (bcells D1) (0, 0) _ hcb Tryf.underlying23 rfl (by rw [hcs]; exact size23) ?_)
  refine (string_any D1 _ hl).mono ?_
  rintro e w4 ⟨rfl, hb4⟩
  have hg4 : w4.heap[w.heap.size]? = some (.cells Z 23 (0, 0)) := by
    rw [hb4.block _ (by omega)]
    exact hg
  have hB4 : Below w.heap.size w w4 := hB.trans (hb4.mono (by omega))
  have hlt4 : w.heap.size + 1 < w4.heap.size := by have := hb4.size; omega
  have hF4 : F.answers w4.tape := by rw [hB4.tape]; exact hF
  clear hcb hcs hb4 hg hB hlt hF2
  generalize (⟨(Hx.encode D1).toArray⟩ : ByteArray) = E at *
  go_wp2_with fail
  rw [← HZ.out]
  clear HZ
  refine (errorf1 F _ _ (by exact hF4) (by go_simp)).mono ?_
  rintro e w3 ⟨x, rfl, hb3⟩
  have hg3 : w3.heap[w.heap.size]? = some (.cells Z 23 (0, 0)) := by
    rw [hb3.block _ (by simp; omega), Below.heap_alloc _ _ _ (by omega)]
    exact hg4
  have hB3 : Below w.heap.size w w3 := (hB4.alloc (by omega) _).trans (hb3.mono (by simp; omega))
  clear hb3
  go_wp2_with (refine wpList_store_row rfl 23 _ _ rfl w.heap.size Z rfl rfl 23 Z hg3 (by rw [hZ1.1]; exact size23) rfl hZ1.2 ?_)
  exact bodyPost_ret (v := .tuple #[.agg Z, .iface 46 x]) (results_parse _ hZ1 (setRow_heap w3 w.heap.size Z Z 23 (0, 0) hg3) rfl rfl) rfl ⟨Z, x, hZ1, rfl, below_setRow hB3 (Nat.le_refl _) Z⟩

set_option maxHeartbeats 400000 in
theorem parse_ok (s : ByteArray) (ev : Value) (w : World) (h64 : s.size = 64) (hE : w.cell? ⟨0, 0, none⟩ = some ev) (D1 : List UInt8) (hD : Hx.decode s.data.toList = (D1, .ok)) (hl : D1.length = 32)
    (hne : ((⟨(Hx.encode D1).toArray⟩ : ByteArray).toList == s.toList) = true) :
    Calls Tryf.prog 10 #[.string s] w fun e w' => e = .returned (.tuple #[.agg (bcells D1), .nilIface]) ∧ Below w.heap.size w w' := by
  obtain ⟨Z, hZ⟩ : ∃ Z, Z = zlit := ⟨_, rfl⟩
  have hZ1 : Arr32 Z := by rw [hZ]; exact arr32_zlit
  have hc := fun cap => decode_call s ev w cap h64 hE Z (by rw [hZ]; exact zlit_eq)
  rw [hD] at hc
  have HC : Hid _ := hc
  clear hc hD
  unfold zlit at hZ
  have HZ : Hid _ := hZ
  clear hZ
  have hcv := fun w => run_bytes_of_string (P := Tryf.prog) w 9 28 5 s Tryf.underlying9 Tryf.underlying28 Tryf.underlying5
  go_enter Tryf.func10, Tryf.ntmps10
  go_wp2_with fail
  rw [← HZ.out]
  refine Calls.mono (HC.out _) ?_
  clear HC
  rintro e w2 ⟨rfl, hg, ⟨c, hcb, hcs, hci⟩, hlt, hB⟩
  have hcD := rowP_full _ D1 c hl hcs hci
  subst hcD
  simp only [Hx.errVal]
  clear hcv hci
  go_wp2_with (refine wpList_load_row_g rfl 23 _ rfl (w.heap.size + 1) rfl 23 (bcells D1) (0, 0) _ hcb Tryf.underlying23 rfl (by rw [hcs]; exact size23) ?_)
  refine (string_any D1 _ hl).mono ?_
  rintro e w4 ⟨rfl, hb4⟩
  have hg4 : w4.heap[w.heap.size]? = some (.cells Z 23 (0, 0)) := by
    rw [hb4.block _ (by omega)]
    exact hg
  have hc4 : w4.heap[w.heap.size + 1]? = some (.cells (bcells D1) 23 (0, 0)) := by
    rw [hb4.block _ (by omega)]
    exact hcb
  have hB4 : Below w.heap.size w w4 := hB.trans (hb4.mono (by omega))
  have A1 := arr32_bcells D1 hl
  clear hcb hcs hb4 hg hB hlt
  generalize (⟨(Hx.encode D1).toArray⟩ : ByteArray) = E at *
  go_wp2_with (first
    | refine wpList_load_row rfl 23 _ rfl (w.heap.size + 1) rfl 23 (bcells D1) (0, 0) _ hc4 Tryf.underlying23 rfl (by rw [A1.1]; exact size23) ?_
    | refine wpList_store_row rfl 23 _ _ rfl w.heap.size (bcells D1) rfl rfl 23 Z hg4 (by rw [A1.1]; exact size23) (by rw [hZ1.1, A1.1]) A1.2 ?_)
  exact bodyPost_ret (v := .tuple #[.agg (bcells D1), .nilIface]) (results_parse _ A1 (setRow_heap w4 w.heap.size Z (bcells D1) 23 (0, 0) hg4) rfl rfl) rfl ⟨rfl, below_setRow hB4 (Nat.le_refl _) _⟩
end Go.Proofs.Qxb6628003aFmt
