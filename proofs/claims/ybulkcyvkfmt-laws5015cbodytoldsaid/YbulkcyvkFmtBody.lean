/-
  readBody (39), interfaceDescription (20) where the octets are read.
-/
import Derived.Test.YbulkcyvkFmtDesc
import Derived.Laws.AppendOwn
import Derived.OwnWalk
import Derived.Deep.RegionLaw
namespace Go.Proofs.YbulkcyvkFmt
open Go.RowKit Go.Extern.Stop Go.Stop Go.Extern
set_option maxRecDepth 100000

section
variable {B Rd R gb S : Nat} {da : Option Addr} {N cap : Nat} {dat : Nat → Nat} {aE aU : Addr} {G : Nat → Value} {w : World}

theorem CReady.setLeft (h : CReady B Rd R gb S da N cap dat aE aU G w) (v : Value) : CReady B Rd R gb S da N cap dat aE aU (upd G 6 v) (w.setCell ⟨Rd, 6, none⟩ v) := by
  have o := (Only.refl (fun j => j = Rd) w).setCell (a := ⟨Rd, 6, none⟩) rfl v
  obtain ⟨F, hr, _⟩ := h.br.row
  obtain ⟨H, hH⟩ := h.gbr
  have hold := h.old
  exact ⟨h.br.of_only o (row_ne hr h.rd (by decide)), h.cs.of_only o (fun j e => ⟨by omega, by rw [e]; exact Ne.symm (row_ne h.cs.row h.rd (by decide))⟩), ⟨H, o.row (row_ne hH h.rd (by decide)) hH⟩, row_set h.rd 6 v, by simp [upd, h.g0], h.sn.below (o.below (fun k e => by omega)), hold⟩

set_option maxHeartbeats 1000000 in
theorem CReady.body_full (h : CReady B Rd R gb S da N cap dat aE aU G w) (s : ByteArray) (left : Nat) (h6 : G 6 = .int .u32 (left : Int)) (hl : 8 ≤ left) (hl2 : left < 4294967296) (hN : 8 ≤ N) :
    Calls Ybaf.prog 39 #[.pointer (some ⟨Rd, 0, none⟩), .slice (some ⟨Rd, 7, none⟩) 8 24, .string s] w fun e w' => e = .returned .nilIface ∧ CGot B Rd R gb S N dat (upd G 6 (.int .u32 ((left : Int) - 8))) (w.setCell ⟨Rd, 6, none⟩ (.int .u32 ((left : Int) - 8))) w' := by
  have x6 : w.cell? ⟨Rd, 6, none⟩ = some (.int .u32 (left : Int)) := by rw [h.rd.cell (by omega), h6]
  have z6 := h.rd.frozen 6
  have HC := hide ((h.setLeft (.int .u32 ((left : Int) - 8))).read_full s hN)
  clear h
  go_enter Ybaf.func39, Ybaf.ntmps39
  go_wp2_with (go_at_call 10; refine (unhide HC).mono ?_; rintro e w1 ⟨rfl, h1⟩)
  go_ret
  exact ⟨rfl, h1⟩
set_option maxHeartbeats 1000000 in
theorem CReady.body_short (F : Interp) (h : CReady B Rd R gb S da N cap dat aE aU G w) (hF : F.answers w.tape) (h32 : G 32 = .nilIface) (s : ByteArray) (left : Nat) (h6 : G 6 = .int .u32 (left : Int)) (hl : 8 ≤ left) (hl2 : left < 4294967296) (hN : N < 8) :
    Calls Ybaf.prog 39 #[.pointer (some ⟨Rd, 0, none⟩), .slice (some ⟨Rd, 7, none⟩) 8 24, .string s] w fun e w' => CCut Rd R gb S aE (upd G 6 (.int .u32 ((left : Int) - 8))) (w.setCell ⟨Rd, 6, none⟩ (.int .u32 ((left : Int) - 8))) e w' := by
  have x6 : w.cell? ⟨Rd, 6, none⟩ = some (.int .u32 (left : Int)) := by rw [h.rd.cell (by omega), h6]
  have z6 := h.rd.frozen 6
  have HC := hide ((h.setLeft (.int .u32 ((left : Int) - 8))).read_short F hF (by simp [upd, h32]) s hN)
  clear h hF
  go_enter Ybaf.func39, Ybaf.ntmps39
  go_wp2_with (go_at_call 10; refine (unhide HC).mono ?_; rintro e w1 ⟨p, rfl, h1⟩)
  go_ret
  exact ⟨p, rfl, h1⟩

set_option maxHeartbeats 1000000 in
theorem CReady.desc_cut (F : Interp) (h : CReady B Rd R gb S da N cap dat aE aU G w) (hF : F.answers w.tape) (h32 : G 32 = .nilIface) (left : Nat) (total : Int) (ia : Option Addr) (il ic : Nat) (h6 : G 6 = .int .u32 (left : Int)) (h5 : G 5 = .slice ia il ic) (hil : il ≤ 60000) (hl : 8 ≤ left) (hl2 : left < 4294967296) (hN : N < 8) :
    Calls Ybaf.prog 20 #[.pointer (some ⟨Rd, 0, none⟩), .int .u32 total] w fun e w' => CCut Rd R gb S aE (upd G 6 (.int .u32 ((left : Int) - 8))) (w.setCell ⟨Rd, 6, none⟩ (.int .u32 ((left : Int) - 8))) e w' := by
  have x6 : w.cell? ⟨Rd, 6, none⟩ = some (.int .u32 (left : Int)) := by rw [h.rd.cell (by omega), h6]
  have x5 : w.cell? ⟨Rd, 5, none⟩ = some (.slice ia il ic) := by rw [h.rd.cell (by omega), h5]
  have HC : Hid (∀ s, Calls Ybaf.prog 39 #[.pointer (some ⟨Rd, 0, none⟩), .slice (some ⟨Rd, 7, none⟩) 8 24, .string s] w fun e w' => CCut Rd R gb S aE (upd G 6 (.int .u32 ((left : Int) - 8))) (w.setCell ⟨Rd, 6, none⟩ (.int .u32 ((left : Int) - 8))) e w') := fun s => h.body_short F hF h32 s left h6 hl hl2 hN
  clear h hF
  go_enter Ybaf.func20, Ybaf.ntmps20
  go_wp2_with (go_at_call 39; refine (unhide HC _).mono ?_; rintro e w1 ⟨p, rfl, h1⟩)
  go_ret
  exact ⟨p, rfl, h1⟩

theorem step_append_own (w : World) {ops : Array Oper} {o : Oper} {a : Act} {K : Act → World → Prop} {Q : Exit → Act → World → Prop} {E : Prop} (hgd : o.guard = none) (s x : Operand) (t : TypeId)
    (ho : o.op = .call { callee := .builtin .append, args := #[s, x], argTypes := #[t, t] })
    (base : Nat) (e : TypeId) (i : TypeInfo) (z : Value) (size bytes : Nat) (ht : Ybaf.prog.underlying t = some (.slice e)) (hi : Ybaf.prog.info? e = some i) (hz : i.zero = some z)
    (hsize : i.size = size) (hby : i.bytes = bytes) (hzs : z.cells.size = size) (hsz : 0 < size)
    (v : Value) (n : Nat) (xs : List Value) (hs : a.eval s = v) (hown : w.ownsRow base e size v n xs)
    (ad : Addr) (m c : Nat) (news : List Value) (hx : a.eval x = .slice (some ad) m c) (hl : news.length = m * size) (hnews : ∀ j u, news[j]? = some u → w.cell? (ad.add j) = some u) (h1 : ∀ u ∈ news, u.oneCell' = true)
    (h63 : n + m ≤ maxLen) (hbytes : (n + m) * bytes ≤ 140737488355328) (hbase : base ≤ w.heap.size)
    (h : ∀ v' w', w'.ownsRow base e size v' (n + m) (xs ++ news) → w.grownBy w' v.ownBlock → (v' = .slice none 0 0 ↔ v = .slice none 0 0 ∧ m = 0) → K (a.put o.dst v') w') :
    if Region.wanted o (yielded ops a.tmps) = true then Oper.wp Ybaf.prog o a w K Q else E := by
  have hw : Region.wanted o (yielded ops a.tmps) = true := by simp [Region.wanted, hgd]
  rw [if_pos hw]
  exact wp_append_own w s x t ho base e i z size bytes ht hi hz hsize hby hzs hsz v n xs hs hown ad m c news hx hl hnews h1 h63 hbytes hbase h

theorem info56 : (Ybaf.prog.info? 56).map (fun i => (i.zero, i.size, i.bytes)) = some (some (.agg #[.int .u16 0, .int .u32 0]), 2, 8) := by kernel_rfl
end
end Go.Proofs.YbulkcyvkFmt
