/- The doors over server.loading: new, add, counts, values. -/
import Derived.Test.Qxb6614322aFmtAdd
namespace Go.Proofs.Qxb6614322aFmt
open Go.RowKit Go.Extern.Stop Go.Stop Go.Extern Go.Maps

set_option maxHeartbeats 1000000 in
theorem zzadd_new (L U base n nU r nr u : Nat) (f : List UInt8 → Bool) (g : List UInt8 → Int) (vi vk mr : Value) (id own : ByteArray) (rs : Option Addr) (m c : Nat) (lab keep : Int) (code : Nat → ByteArray) (kind : Nat → Int) (w : World)
    (hs : id.size ≤ maxLen) (hv : validB id.data.toList = true) (hUL : U ≠ L) (hLb : L < base) (hUb : U < base) (hbs : base ≤ w.heap.size)
    (hL : w.heap[L]? = some (.cells #[vi, vk, mr, .int .i64 n, .int .i64 r, .int .i64 nr, .int .i64 u, .map (some U)] 60 (0, 0))) (hB : BatchOwn w base n vi vk mr f) (hn : n ≤ 65536) (hr : r + nr + u = n) (hd : f id.data.toList = false)
    (hU : UMap w U nU g) (hnU : nU + m ≤ 1099511627776) (hm : m ≤ 1048576) (hR : Ratings w rs m code kind) (hrs : ∀ k, (∃ i, rs = some ⟨k, i, none⟩) → ¬ Touch L vi vk mr k ∧ k ≠ U) (hcs : ∀ j, j < m → (code j).size ≤ maxLen) :
    Calls Tryf.prog 11 #[.pointer (some ⟨L, 0, none⟩), .agg #[.string id, .slice rs m c, .int .u8 lab, .string own], .int .u8 keep] w fun e w' => e = .returned .nilIface ∧
      ∃ vi' vk' mr' r' nr' u' g', w'.heap[L]? = some (.cells #[vi', vk', mr', .int .i64 ((n + 1 : Nat) : Int), .int .i64 ((r' : Nat) : Int), .int .i64 ((nr' : Nat) : Int), .int .i64 ((u' : Nat) : Int), .map (some U)] 60 (0, 0)) ∧ r' + nr' + u' = n + 1 ∧
        BatchOwn w' base (n + 1) vi' vk' mr' (fun l => l == id.data.toList || f l) ∧ UMap w' U (nU + m) g' ∧ Fr (fun k => Touch L vi vk mr k ∨ k = U) w w' := by
  have C := hid (add_new L U base n nU r nr u f g vi vk mr id own rs m c lab keep code kind (w.alloc (.cells #[.string id, .slice rs m c, .int .u8 lab, .string own] 38)) hs hv hUL hLb hUb (by simp; omega) ((blk_old (lt_of_blk hL)).trans hL) (hB.later fun k _ hk => blk_old hk) hn hr hd
    (hU.later (blk_old hU.lt)) hnU hm (hR.later (by simp) (fun k hk _ => blk_old hk)) hrs hcs)
  clear hv hL hB hU hR hrs hcs hd
  go_enter Tryf.func11, Tryf.ntmps11
  go_wp2_with fail
  refine C.out.mono ?_
  rintro e w' ⟨rfl, vi', vk', mr', r', nr', u', g', h1, h2, h3, h4, h5⟩
  have H := hid (show ∃ vi' vk' mr' r' nr' u' g', w'.heap[L]? = some (.cells #[vi', vk', mr', .int .i64 ((n + 1 : Nat) : Int), .int .i64 ((r' : Nat) : Int), .int .i64 ((nr' : Nat) : Int), .int .i64 ((u' : Nat) : Int), .map (some U)] 60 (0, 0)) ∧ r' + nr' + u' = n + 1 ∧
        BatchOwn w' base (n + 1) vi' vk' mr' (fun l => l == id.data.toList || f l) ∧ UMap w' U (nU + m) g' ∧ Fr (fun k => Touch L vi vk mr k ∨ k = U) w w' from ⟨vi', vk', mr', r', nr', u', g', h1, h2, h3, h4, ((Fr.refl _ w).alloc _).trans h5 (fun _ _ h => h)⟩)
  clear h1 h2 h3 h4 h5 C
  go_wp2_with fail
  go_ret
  exact ⟨rfl, H.out⟩

set_option maxHeartbeats 1000000 in
theorem zzadd_refused (F : Interp) (L base n : Nat) (f : List UInt8 → Bool) (mr : Value) (id own : ByteArray) (rs : Option Addr) (m c : Nat) (lab keep : Int) (w : World) (hF : F.answers w.tape) (hs : id.size ≤ maxLen)
    (hL : L < w.heap.size) (hc : w.cell? ⟨L, 2, none⟩ = some mr) (hI : IdsAre w base n mr f) (hd : validB id.data.toList = true → f id.data.toList = true) :
    Calls Tryf.prog 11 #[.pointer (some ⟨L, 0, none⟩), .agg #[.string id, .slice rs m c, .int .u8 lab, .string own], .int .u8 keep] w fun e w' => (∃ p, e = .returned (.iface 73 p)) ∧ Below w.heap.size w w' := by
  have hI' : IdsAre (w.alloc (.cells #[.string id, .slice rs m c, .int .u8 lab, .string own] 38)) base n mr f := by
    obtain ⟨rfl, hf⟩ | ⟨bm, D, rfl, hbm, hm, hf⟩ := hI
    · exact .inl ⟨rfl, hf⟩
    · exact .inr ⟨bm, D, rfl, hbm, map_later hm (blk_old hm.lt), hf⟩
  have C := hid (add_refused F L base n f mr id own rs m c lab keep (w.alloc (.cells #[.string id, .slice rs m c, .int .u8 lab, .string own] 38)) hF hs (by simp; omega) ((cell_old (a := ⟨L, 2, none⟩) hL).trans hc) hI' hd)
  clear hI' hI hd hc
  go_enter Tryf.func11, Tryf.ntmps11
  go_wp2_with fail
  refine C.out.mono ?_
  rintro e w' ⟨⟨p, rfl⟩, h2⟩
  have H : Hid (Below w.heap.size w w') := ((Below.refl w.heap.size w).alloc (Nat.le_refl _) _).trans (h2.mono (by simp))
  clear h2 C
  go_wp2_with fail
  go_ret
  exact ⟨⟨p, rfl⟩, H.out⟩

theorem zznew (w : World) : Calls Tryf.prog 7 #[] w fun e w' => e = .returned (.pointer (some ⟨w.heap.size + 1, 0, none⟩)) ∧
    w' = (w.alloc (.map #[] 0)).alloc (.cells #[.slice none 0 0, .slice none 0 0, .map none, .int .i64 0, .int .i64 0, .int .i64 0, .int .i64 0, .map (some w.heap.size)] 60) := by
  have hmm := @run_makeMap Tryf.prog
  go_enter Tryf.func7, Tryf.ntmps7
  go_wp2_with fail
  go_ret
  exact ⟨rfl, rfl⟩

theorem zzcounts (L : Nat) (v0 v1 v2 v7 : Value) (a b c d : Int) (w : World) (hL : w.heap[L]? = some (.cells #[v0, v1, v2, .int .i64 a, .int .i64 b, .int .i64 c, .int .i64 d, v7] 60 (0, 0))) :
    Calls Tryf.prog 12 #[.pointer (some ⟨L, 0, none⟩)] w fun e w' => e = .returned (.tuple #[.int .i64 a, .int .i64 b, .int .i64 c, .int .i64 d]) ∧ ∃ n, w' = w.drewN n := by
  obtain ⟨-, -, -, k3, k4, k5, k6, -⟩ := cells8 hL
  clear hL
  go_enter Tryf.func12, Tryf.ntmps12
  go_wp2_with fail
  go_quiet (fail)
  go_wp2_with fail
  refine bodyPost_ret (v := .tuple #[.int .i64 a, .int .i64 b, .int .i64 c, .int .i64 d]) (by simp [results, Tryf.results12, go_sem]) rfl ?_
  exact ⟨rfl, nq, rfl⟩

theorem zzvalues (L : Nat) (v0 v1 v2 v3 v4 v5 v6 : Value) (U : Nat) (w : World) (hL : w.heap[L]? = some (.cells #[v0, v1, v2, v3, v4, v5, v6, .map (some U)] 60 (0, 0))) :
    Calls Tryf.prog 13 #[.pointer (some ⟨L, 0, none⟩)] w fun e w' => e = .returned (.map (some U)) ∧ w' = w := by
  obtain ⟨-, -, -, -, -, -, -, k7⟩ := cells8 hL
  clear hL
  go_enter Tryf.func13, Tryf.ntmps13
  go_wp2_with fail
  go_ret
  exact ⟨rfl, rfl⟩
end Go.Proofs.Qxb6614322aFmt
