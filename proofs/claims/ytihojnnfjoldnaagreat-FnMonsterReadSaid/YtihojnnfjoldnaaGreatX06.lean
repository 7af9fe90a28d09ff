/- WHAT IS PROVED: the given statement of FnMonsterRead, whatever the input: this is part 6 of 13. No conditions. -/
import Derived.Test.YtihojnnfjoldnaaGreatX05
set_option linter.all false
namespace Go.Proofs
open Go Go.Vc
open Tryz (prog)
section
variable {H:Qf} {p:Nat} {S:BS} {F:Cut} {r:Nat} (hB:Qc H p S F r) {R:Kn}
include hB
theorem QcJ {n:Nat} (hn:S.nested=false) (hl:S.buf.length+4*n+24<=536870912)
  (hR:∀H' v,Qc H' p (QL 4 n 2 S) F (Nat.max ((4+4*n+1)-padOf 2 ((prep 4 (4*n) {S with nested:=true}).buf.length+4*n)) (2+4*n+1))->R v H'):
  FnS prog 86 #[.pointer (some ⟨p,0,none⟩),.int .i64 (n:Nat)] H R:=by
 apply w86
 unfold s86
 refine QN (es:=4) (al:=2) (k:=1) hB hn (by decide) (by decide) hl ?_
 intro H' h'
 exact hR H' _ h'
theorem Qaf {n:Nat} (hn:S.nested=false) (hl:S.buf.length+4*n+24<=536870912)
  (hR:∀H' v,Qc H' p (QL 4 n 4 S) F (Nat.max ((4+4*n+1)-padOf 4 ((prep 4 (4*n) {S with nested:=true}).buf.length+4*n)) (4+4*n+1))->R v H'):
  FnS prog 89 #[.pointer (some ⟨p,0,none⟩),.int .i64 (n:Nat)] H R:=by
 apply w89
 unfold s89
 refine QN (es:=4) (al:=4) (k:=2) hB hn (by decide) (by decide) hl ?_
 intro H' h'
 exact hR H' _ h'
theorem Qae {n:Nat} (hn:S.nested=false) (hl:S.buf.length+4*n+24<=536870912)
  (hR:∀H' v,Qc H' p (QL 4 n 4 S) F (Nat.max ((4+4*n+1)-padOf 4 ((prep 4 (4*n) {S with nested:=true}).buf.length+4*n)) (4+4*n+1))->R v H'):
  FnS prog 90 #[.pointer (some ⟨p,0,none⟩),.int .i64 (n:Nat)] H R:=by
 apply w90
 unfold s90
 refine QN (es:=4) (al:=4) (k:=2) hB hn (by decide) (by decide) hl ?_
 intro H' h'
 exact hR H' _ h'
theorem Qaq {n:Nat} (hn:S.nested=false) (hl:S.buf.length+1*n+24<=536870912)
  (hR:∀H' v,Qc H' p (QL 1 n 1 S) F (Nat.max ((4+1*n+1)-padOf 1 ((prep 4 (1*n) {S with nested:=true}).buf.length+1*n)) (1+1*n+1))->R v H'):
  FnS prog 92 #[.pointer (some ⟨p,0,none⟩),.int .i64 (n:Nat)] H R:=by
 apply w92
 unfold s92
 refine QN (es:=1) (al:=1) (k:=0) hB hn (by decide) (by decide) hl ?_
 intro H' h'
 exact hR H' _ h'
theorem Qab {n:Nat} (hn:S.nested=false) (hl:S.buf.length+4*n+24<=536870912)
  (hR:∀H' v,Qc H' p (QL 4 n 4 S) F (Nat.max ((4+4*n+1)-padOf 4 ((prep 4 (4*n) {S with nested:=true}).buf.length+4*n)) (4+4*n+1))->R v H'):
  FnS prog 94 #[.pointer (some ⟨p,0,none⟩),.int .i64 (n:Nat)] H R:=by
 apply w94
 unfold s94
 refine QN (es:=4) (al:=4) (k:=2) hB hn (by decide) (by decide) hl ?_
 intro H' h'
 exact hR H' _ h'
theorem ZO {n:Nat} (hn:S.nested=false) (hl:S.buf.length+8*n+24<=536870912)
  (hR:∀H' v,Qc H' p (QL 8 n 4 S) F (Nat.max ((4+8*n+1)-padOf 4 ((prep 4 (8*n) {S with nested:=true}).buf.length+8*n)) (4+8*n+1))->R v H'):
  FnS prog 95 #[.pointer (some ⟨p,0,none⟩),.int .i64 (n:Nat)] H R:=by
 apply w95
 unfold s95
 refine QN (es:=8) (al:=4) (k:=2) hB hn (by decide) (by decide) hl ?_
 intro H' h'
 exact hR H' _ h'
theorem Qcy {n:Nat} (hn:S.nested=false) (hl:S.buf.length+4*n+24<=536870912)
  (hR:∀H' v,Qc H' p (QL 4 n 2 S) F (Nat.max ((4+4*n+1)-padOf 2 ((prep 4 (4*n) {S with nested:=true}).buf.length+4*n)) (2+4*n+1))->R v H'):
  FnS prog 97 #[.pointer (some ⟨p,0,none⟩),.int .i64 (n:Nat)] H R:=by
 apply w97
 unfold s97
 refine QN (es:=4) (al:=2) (k:=1) hB hn (by decide) (by decide) hl ?_
 intro H' h'
 exact hR H' _ h'
theorem QaT {n:Nat} (hn:S.nested=false) (hl:S.buf.length+8*n+24<=536870912)
  (hR:∀H' v,Qc H' p (QL 8 n 8 S) F (Nat.max ((4+8*n+1)-padOf 8 ((prep 4 (8*n) {S with nested:=true}).buf.length+8*n)) (8+8*n+1))->R v H'):
  FnS prog 98 #[.pointer (some ⟨p,0,none⟩),.int .i64 (n:Nat)] H R:=by
 apply w98
 unfold s98
 refine QN (es:=8) (al:=8) (k:=3) hB hn (by decide) (by decide) hl ?_
 intro H' h'
 exact hR H' _ h'
theorem Qaz {n:Nat} (hn:S.nested=false) (hl:S.buf.length+8*n+24<=536870912)
  (hR:∀H' v,Qc H' p (QL 8 n 8 S) F (Nat.max ((4+8*n+1)-padOf 8 ((prep 4 (8*n) {S with nested:=true}).buf.length+8*n)) (8+8*n+1))->R v H'):
  FnS prog 100 #[.pointer (some ⟨p,0,none⟩),.int .i64 (n:Nat)] H R:=by
 apply w100
 unfold s100
 refine QN (es:=8) (al:=8) (k:=3) hB hn (by decide) (by decide) hl ?_
 intro H' h'
 exact hR H' _ h'
theorem Qa8 {n:Nat} (hn:S.nested=false) (hl:S.buf.length+4*n+24<=536870912)
  (hR:∀H' v,Qc H' p (QL 4 n 4 S) F (Nat.max ((4+4*n+1)-padOf 4 ((prep 4 (4*n) {S with nested:=true}).buf.length+4*n)) (4+4*n+1))->R v H'):
  FnS prog 104 #[.pointer (some ⟨p,0,none⟩),.int .i64 (n:Nat)] H R:=by
 apply w104
 unfold s104
 refine QN (es:=4) (al:=4) (k:=2) hB hn (by decide) (by decide) hl ?_
 intro H' h'
 exact hR H' _ h'
theorem ZZ {n:Nat} (hn:S.nested=false) (hl:S.buf.length+8*n+24<=536870912)
  (hR:∀H' v,Qc H' p (QL 8 n 8 S) F (Nat.max ((4+8*n+1)-padOf 8 ((prep 4 (8*n) {S with nested:=true}).buf.length+8*n)) (8+8*n+1))->R v H'):
  FnS prog 105 #[.pointer (some ⟨p,0,none⟩),.int .i64 (n:Nat)] H R:=by
 apply w105
 unfold s105
 refine QN (es:=8) (al:=8) (k:=3) hB hn (by decide) (by decide) hl ?_
 intro H' h'
 exact hR H' _ h'
theorem ZD {n:Nat} (hn:S.nested=false) (hl:S.buf.length+4*n+24<=536870912)
  (hR:∀H' v,Qc H' p (QL 4 n 4 S) F (Nat.max ((4+4*n+1)-padOf 4 ((prep 4 (4*n) {S with nested:=true}).buf.length+4*n)) (4+4*n+1))->R v H'):
  FnS prog 107 #[.pointer (some ⟨p,0,none⟩),.int .i64 (n:Nat)] H R:=by
 apply w107
 unfold s107
 refine QN (es:=4) (al:=4) (k:=2) hB hn (by decide) (by decide) hl ?_
 intro H' h'
 exact hR H' _ h'
theorem Z6 {n:Nat} (hn:S.nested=false) (hl:S.buf.length+8*n+24<=536870912)
  (hR:∀H' v,Qc H' p (QL 8 n 8 S) F (Nat.max ((4+8*n+1)-padOf 8 ((prep 4 (8*n) {S with nested:=true}).buf.length+8*n)) (8+8*n+1))->R v H'):
  FnS prog 108 #[.pointer (some ⟨p,0,none⟩),.int .i64 (n:Nat)] H R:=by
 apply w108
 unfold s108
 refine QN (es:=8) (al:=8) (k:=3) hB hn (by decide) (by decide) hl ?_
 intro H' h'
 exact hR H' _ h'
theorem Zz {n:Nat} (hn:S.nested=false) (hl:S.buf.length+8*n+24<=536870912)
  (hR:∀H' v,Qc H' p (QL 8 n 8 S) F (Nat.max ((4+8*n+1)-padOf 8 ((prep 4 (8*n) {S with nested:=true}).buf.length+8*n)) (8+8*n+1))->R v H'):
  FnS prog 109 #[.pointer (some ⟨p,0,none⟩),.int .i64 (n:Nat)] H R:=by
 apply w109
 unfold s109
 refine QN (es:=8) (al:=8) (k:=3) hB hn (by decide) (by decide) hl ?_
 intro H' h'
 exact hR H' _ h'
theorem QaY {n:Nat} (hn:S.nested=false) (hl:S.buf.length+1*n+24<=536870912)
  (hR:∀H' v,Qc H' p (QL 1 n 1 S) F (Nat.max ((4+1*n+1)-padOf 1 ((prep 4 (1*n) {S with nested:=true}).buf.length+1*n)) (1+1*n+1))->R v H'):
  FnS prog 112 #[.pointer (some ⟨p,0,none⟩),.int .i64 (n:Nat)] H R:=by
 apply w112
 unfold s112
 refine QN (es:=1) (al:=1) (k:=0) hB hn (by decide) (by decide) hl ?_
 intro H' h'
 exact hR H' _ h'
theorem Qgc (hn:S.nested=false) (hR:∀H',Qc H' p (Qw 49 S) F r->R (.tuple #[]) H'):FnS prog 114 #[.pointer (some ⟨p,0,none⟩)] H R:=by
 apply w114
 unfold s114
 exact YU (n:=49) hB hn (by decide) hR
theorem QcR {off:Nat} (hn:S.nested=true) (hoff:off=0\/off=S.buf.length) (ho:0<S.vt.length) (hR:∀H',Qc H' p (slotStruct off 0 S) F 0->R (.tuple #[]) H'):FnS prog 116 #[.pointer (some ⟨p,0,none⟩),.int .u32 (off:Int)] H R:=by
 apply w116
 unfold s116
 exact Qdh (o:=0) hB hn hoff ho hR
theorem Qfl {x:Nat} (hx:x<65536) (ho:1<S.vt.length) (hl:S.buf.length+16<=536870912) (hR:∀H',Qc H' p (slotN 2 x 150 1 S) F 0->R (.tuple #[]) H'):FnS prog 117 #[.pointer (some ⟨p,0,none⟩),.int .i16 (IntKind.i16.wrap (x:Int))] H R:=by
 apply w117
 unfold s117
 exact QaQ (o:=1) (d:=150) hB hx (by decide) ho hl hR
theorem Qg7 {x:Nat} (hx:x<65536) (ho:2<S.vt.length) (hl:S.buf.length+16<=536870912) (hR:∀H',Qc H' p (slotN 2 x 100 2 S) F 0->R (.tuple #[]) H'):FnS prog 118 #[.pointer (some ⟨p,0,none⟩),.int .i16 (IntKind.i16.wrap (x:Int))] H R:=by
 apply w118
 unfold s118
 exact QaQ (o:=2) (d:=100) hB hx (by decide) ho hl hR
theorem Qff {off:Nat} (hoff:off<=S.buf.length) (ho:3<S.vt.length) (hl:S.buf.length+16<=536870912) (hR:∀H',Qc H' p (slotOff off 3 S) F 0->R (.tuple #[]) H'):FnS prog 119 #[.pointer (some ⟨p,0,none⟩),.int .u32 (off:Int)] H R:=by
 apply w119
 unfold s119
 exact Qo (o:=3) hB hoff ho hl hR
theorem Qdz {off:Nat} (hoff:off<=S.buf.length) (ho:5<S.vt.length) (hl:S.buf.length+16<=536870912) (hR:∀H',Qc H' p (slotOff off 5 S) F 0->R (.tuple #[]) H'):FnS prog 120 #[.pointer (some ⟨p,0,none⟩),.int .u32 (off:Int)] H R:=by
 apply w120
 unfold s120
 exact Qo (o:=5) hB hoff ho hl hR
theorem QeI {x:Nat} (hx:x<256) (ho:6<S.vt.length) (hl:S.buf.length+16<=536870912) (hR:∀H',Qc H' p (slotN 1 x 8 6 S) F 0->R (.tuple #[]) H'):FnS prog 121 #[.pointer (some ⟨p,0,none⟩),.int .u8 (x:Int)] H R:=by
 apply w121
 unfold s121
 exact Y5 (o:=6) (d:=8) hB hx (by decide) ho hl hR
theorem QdO {x:Nat} (hx:x<256) (ho:7<S.vt.length) (hl:S.buf.length+16<=536870912) (hR:∀H',Qc H' p (slotN 1 x 0 7 S) F 0->R (.tuple #[]) H'):FnS prog 122 #[.pointer (some ⟨p,0,none⟩),.int .u8 (x:Int)] H R:=by
 apply w122
 unfold s122
 exact Y5 (o:=7) (d:=0) hB hx (by decide) ho hl hR
theorem Qfn {off:Nat} (hoff:off<=S.buf.length) (ho:8<S.vt.length) (hl:S.buf.length+16<=536870912) (hR:∀H',Qc H' p (slotOff off 8 S) F 0->R (.tuple #[]) H'):FnS prog 123 #[.pointer (some ⟨p,0,none⟩),.int .u32 (off:Int)] H R:=by
 apply w123
 unfold s123
 exact Qo (o:=8) hB hoff ho hl hR
theorem Qf0 {off:Nat} (hoff:off<=S.buf.length) (ho:9<S.vt.length) (hl:S.buf.length+16<=536870912) (hR:∀H',Qc H' p (slotOff off 9 S) F 0->R (.tuple #[]) H'):FnS prog 124 #[.pointer (some ⟨p,0,none⟩),.int .u32 (off:Int)] H R:=by
 apply w124
 unfold s124
 exact Qo (o:=9) hB hoff ho hl hR
theorem Qbz {off:Nat} (hoff:off<=S.buf.length) (ho:10<S.vt.length) (hl:S.buf.length+16<=536870912) (hR:∀H',Qc H' p (slotOff off 10 S) F 0->R (.tuple #[]) H'):FnS prog 125 #[.pointer (some ⟨p,0,none⟩),.int .u32 (off:Int)] H R:=by
 apply w125
 unfold s125
 exact Qo (o:=10) hB hoff ho hl hR
theorem QbJ {off:Nat} (hoff:off<=S.buf.length) (ho:11<S.vt.length) (hl:S.buf.length+16<=536870912) (hR:∀H',Qc H' p (slotOff off 11 S) F 0->R (.tuple #[]) H'):FnS prog 126 #[.pointer (some ⟨p,0,none⟩),.int .u32 (off:Int)] H R:=by
 apply w126
 unfold s126
 exact Qo (o:=11) hB hoff ho hl hR
theorem Qf1 {off:Nat} (hoff:off<=S.buf.length) (ho:12<S.vt.length) (hl:S.buf.length+16<=536870912) (hR:∀H',Qc H' p (slotOff off 12 S) F 0->R (.tuple #[]) H'):FnS prog 127 #[.pointer (some ⟨p,0,none⟩),.int .u32 (off:Int)] H R:=by
 apply w127
 unfold s127
 exact Qo (o:=12) hB hoff ho hl hR
theorem Qb6 {off:Nat} (hoff:off<=S.buf.length) (ho:13<S.vt.length) (hl:S.buf.length+16<=536870912) (hR:∀H',Qc H' p (slotOff off 13 S) F 0->R (.tuple #[]) H'):FnS prog 128 #[.pointer (some ⟨p,0,none⟩),.int .u32 (off:Int)] H R:=by
 apply w128
 unfold s128
 exact Qo (o:=13) hB hoff ho hl hR
theorem QdC {off:Nat} (hoff:off<=S.buf.length) (ho:14<S.vt.length) (hl:S.buf.length+16<=536870912) (hR:∀H',Qc H' p (slotOff off 14 S) F 0->R (.tuple #[]) H'):FnS prog 129 #[.pointer (some ⟨p,0,none⟩),.int .u32 (off:Int)] H R:=by
 apply w129
 unfold s129
 exact Qo (o:=14) hB hoff ho hl hR
theorem QdJ {x:Bool} (ho:15<S.vt.length) (hl:S.buf.length+16<=536870912) (hR:∀H',Qc H' p (slotN 1 (if x then 1 else 0) 0 15 S) F 0->R (.tuple #[]) H'):FnS prog 130 #[.pointer (some ⟨p,0,none⟩),.bool x] H R:=by
 apply w130
 unfold s130
 exact QdN (o:=15) hB ho hl hR
theorem Qca {x:Nat} (hx:x<4294967296) (ho:16<S.vt.length) (hl:S.buf.length+16<=536870912) (hR:∀H',Qc H' p (slotN 4 x 0 16 S) F 0->R (.tuple #[]) H'):FnS prog 131 #[.pointer (some ⟨p,0,none⟩),.int .i32 (IntKind.i32.wrap (x:Int))] H R:=by
 apply w131
 unfold s131
 exact QaK (o:=16) (d:=0) hB hx (by decide) ho hl hR
theorem Qc3 {x:Nat} (hx:x<4294967296) (ho:17<S.vt.length) (hl:S.buf.length+16<=536870912) (hR:∀H',Qc H' p (slotN 4 x 0 17 S) F 0->R (.tuple #[]) H'):FnS prog 132 #[.pointer (some ⟨p,0,none⟩),.int .u32 (x:Int)] H R:=by
 apply w132
 unfold s132
 exact QaE (o:=17) (d:=0) hB hx (by decide) ho hl hR
theorem Qcd {x:Nat} (hx:x<18446744073709551616) (ho:18<S.vt.length) (hl:S.buf.length+16<=536870912) (hR:∀H',Qc H' p (slotN 8 x 0 18 S) F 0->R (.tuple #[]) H'):FnS prog 133 #[.pointer (some ⟨p,0,none⟩),.int .i64 (IntKind.i64.wrap (x:Int))] H R:=by
 apply w133
 unfold s133
 exact ZE (o:=18) (d:=0) hB hx (by decide) ho hl hR
theorem Qci {x:Nat} (hx:x<18446744073709551616) (ho:19<S.vt.length) (hl:S.buf.length+16<=536870912) (hR:∀H',Qc H' p (slotN 8 x 0 19 S) F 0->R (.tuple #[]) H'):FnS prog 134 #[.pointer (some ⟨p,0,none⟩),.int .u64 (x:Int)] H R:=by
 apply w134
 unfold s134
 exact Yx (o:=19) (d:=0) hB hx (by decide) ho hl hR
theorem QbX {x:Nat} (hx:x<4294967296) (ho:20<S.vt.length) (hl:S.buf.length+16<=536870912) (hR:∀H',Qc H' p (slotN 4 x 0 20 S) F 0->R (.tuple #[]) H'):FnS prog 135 #[.pointer (some ⟨p,0,none⟩),.int .i32 (IntKind.i32.wrap (x:Int))] H R:=by
 apply w135
 unfold s135
 exact QaK (o:=20) (d:=0) hB hx (by decide) ho hl hR
theorem QbU {x:Nat} (hx:x<4294967296) (ho:21<S.vt.length) (hl:S.buf.length+16<=536870912) (hR:∀H',Qc H' p (slotN 4 x 0 21 S) F 0->R (.tuple #[]) H'):FnS prog 136 #[.pointer (some ⟨p,0,none⟩),.int .u32 (x:Int)] H R:=by
 apply w136
 unfold s136
 exact QaE (o:=21) (d:=0) hB hx (by decide) ho hl hR
theorem QbV {x:Nat} (hx:x<18446744073709551616) (ho:22<S.vt.length) (hl:S.buf.length+16<=536870912) (hR:∀H',Qc H' p (slotN 8 x 0 22 S) F 0->R (.tuple #[]) H'):FnS prog 137 #[.pointer (some ⟨p,0,none⟩),.int .i64 (IntKind.i64.wrap (x:Int))] H R:=by
 apply w137
 unfold s137
 exact ZE (o:=22) (d:=0) hB hx (by decide) ho hl hR
theorem QbZ {x:Nat} (hx:x<18446744073709551616) (ho:23<S.vt.length) (hl:S.buf.length+16<=536870912) (hR:∀H',Qc H' p (slotN 8 x 0 23 S) F 0->R (.tuple #[]) H'):FnS prog 138 #[.pointer (some ⟨p,0,none⟩),.int .u64 (x:Int)] H R:=by
 apply w138
 unfold s138
 exact Yx (o:=23) (d:=0) hB hx (by decide) ho hl hR
theorem Qc0 {off:Nat} (hoff:off<=S.buf.length) (ho:24<S.vt.length) (hl:S.buf.length+16<=536870912) (hR:∀H',Qc H' p (slotOff off 24 S) F 0->R (.tuple #[]) H'):FnS prog 139 #[.pointer (some ⟨p,0,none⟩),.int .u32 (off:Int)] H R:=by
 apply w139
 unfold s139
 exact Qo (o:=24) hB hoff ho hl hR
theorem QeX {x:Nat} (ho:25<S.vt.length) (hl:S.buf.length+16<=536870912) (hR:∀H',Qc H' p (slotF x 1078530000 25 S) F 0->R (.tuple #[]) H'):FnS prog 140 #[.pointer (some ⟨p,0,none⟩),.float .f32 x] H R:=by
 apply w140
 unfold s140
 exact Zw (o:=25) hB ho hl hR
theorem Qet {x:Nat} (ho:26<S.vt.length) (hl:S.buf.length+16<=536870912) (hR:∀H',Qc H' p (slotF x 1077936128 26 S) F 0->R (.tuple #[]) H'):FnS prog 141 #[.pointer (some ⟨p,0,none⟩),.float .f32 x] H R:=by
 apply w141
 unfold s141
 exact Zw (o:=26) hB ho hl hR
theorem Qez {x:Nat} (ho:27<S.vt.length) (hl:S.buf.length+16<=536870912) (hR:∀H',Qc H' p (slotF x 0 27 S) F 0->R (.tuple #[]) H'):FnS prog 142 #[.pointer (some ⟨p,0,none⟩),.float .f32 x] H R:=by
 apply w142
 unfold s142
 exact Zw (o:=27) hB ho hl hR
theorem Qbm {off:Nat} (hoff:off<=S.buf.length) (ho:28<S.vt.length) (hl:S.buf.length+16<=536870912) (hR:∀H',Qc H' p (slotOff off 28 S) F 0->R (.tuple #[]) H'):FnS prog 143 #[.pointer (some ⟨p,0,none⟩),.int .u32 (off:Int)] H R:=by
 apply w143
 unfold s143
 exact Qo (o:=28) hB hoff ho hl hR
theorem Qax {off:Nat} (hoff:off<=S.buf.length) (ho:29<S.vt.length) (hl:S.buf.length+16<=536870912) (hR:∀H',Qc H' p (slotOff off 29 S) F 0->R (.tuple #[]) H'):FnS prog 144 #[.pointer (some ⟨p,0,none⟩),.int .u32 (off:Int)] H R:=by
 apply w144
 unfold s144
 exact Qo (o:=29) hB hoff ho hl hR
theorem Qfe {off:Nat} (hoff:off<=S.buf.length) (ho:30<S.vt.length) (hl:S.buf.length+16<=536870912) (hR:∀H',Qc H' p (slotOff off 30 S) F 0->R (.tuple #[]) H'):FnS prog 145 #[.pointer (some ⟨p,0,none⟩),.int .u32 (off:Int)] H R:=by
 apply w145
 unfold s145
 exact Qo (o:=30) hB hoff ho hl hR
theorem QeJ {off:Nat} (hoff:off<=S.buf.length) (ho:31<S.vt.length) (hl:S.buf.length+16<=536870912) (hR:∀H',Qc H' p (slotOff off 31 S) F 0->R (.tuple #[]) H'):FnS prog 146 #[.pointer (some ⟨p,0,none⟩),.int .u32 (off:Int)] H R:=by
 apply w146
 unfold s146
 exact Qo (o:=31) hB hoff ho hl hR
theorem QcD {off:Nat} (hoff:off<=S.buf.length) (ho:32<S.vt.length) (hl:S.buf.length+16<=536870912) (hR:∀H',Qc H' p (slotOff off 32 S) F 0->R (.tuple #[]) H'):FnS prog 147 #[.pointer (some ⟨p,0,none⟩),.int .u32 (off:Int)] H R:=by
 apply w147
 unfold s147
 exact Qo (o:=32) hB hoff ho hl hR
theorem Qcn {off:Nat} (hoff:off<=S.buf.length) (ho:33<S.vt.length) (hl:S.buf.length+16<=536870912) (hR:∀H',Qc H' p (slotOff off 33 S) F 0->R (.tuple #[]) H'):FnS prog 148 #[.pointer (some ⟨p,0,none⟩),.int .u32 (off:Int)] H R:=by
 apply w148
 unfold s148
 exact Qo (o:=33) hB hoff ho hl hR
theorem Qbd {off:Nat} (hoff:off<=S.buf.length) (ho:34<S.vt.length) (hl:S.buf.length+16<=536870912) (hR:∀H',Qc H' p (slotOff off 34 S) F 0->R (.tuple #[]) H'):FnS prog 149 #[.pointer (some ⟨p,0,none⟩),.int .u32 (off:Int)] H R:=by
 apply w149
 unfold s149
 exact Qo (o:=34) hB hoff ho hl hR
theorem Qbh {off:Nat} (hoff:off<=S.buf.length) (ho:35<S.vt.length) (hl:S.buf.length+16<=536870912) (hR:∀H',Qc H' p (slotOff off 35 S) F 0->R (.tuple #[]) H'):FnS prog 150 #[.pointer (some ⟨p,0,none⟩),.int .u32 (off:Int)] H R:=by
 apply w150
 unfold s150
 exact Qo (o:=35) hB hoff ho hl hR
theorem Qbe {x:Nat} (hx:x<18446744073709551616) (ho:36<S.vt.length) (hl:S.buf.length+16<=536870912) (hR:∀H',Qc H' p (slotN 8 x 0 36 S) F 0->R (.tuple #[]) H'):FnS prog 151 #[.pointer (some ⟨p,0,none⟩),.int .u64 (x:Int)] H R:=by
 apply w151
 unfold s151
 exact Yx (o:=36) (d:=0) hB hx (by decide) ho hl hR
theorem QaG {off:Nat} (hoff:off<=S.buf.length) (ho:37<S.vt.length) (hl:S.buf.length+16<=536870912) (hR:∀H',Qc H' p (slotOff off 37 S) F 0->R (.tuple #[]) H'):FnS prog 152 #[.pointer (some ⟨p,0,none⟩),.int .u32 (off:Int)] H R:=by
 apply w152
 unfold s152
 exact Qo (o:=37) hB hoff ho hl hR
theorem Qad {off:Nat} (hoff:off<=S.buf.length) (ho:38<S.vt.length) (hl:S.buf.length+16<=536870912) (hR:∀H',Qc H' p (slotOff off 38 S) F 0->R (.tuple #[]) H'):FnS prog 153 #[.pointer (some ⟨p,0,none⟩),.int .u32 (off:Int)] H R:=by
 apply w153
 unfold s153
 exact Qo (o:=38) hB hoff ho hl hR
theorem QbK {x:Nat} (hx:x<18446744073709551616) (ho:39<S.vt.length) (hl:S.buf.length+16<=536870912) (hR:∀H',Qc H' p (slotN 8 x 0 39 S) F 0->R (.tuple #[]) H'):FnS prog 154 #[.pointer (some ⟨p,0,none⟩),.int .u64 (x:Int)] H R:=by
 apply w154
 unfold s154
 exact Yx (o:=39) (d:=0) hB hx (by decide) ho hl hR
theorem Qa9 {off:Nat} (hoff:off<=S.buf.length) (ho:40<S.vt.length) (hl:S.buf.length+16<=536870912) (hR:∀H',Qc H' p (slotOff off 40 S) F 0->R (.tuple #[]) H'):FnS prog 155 #[.pointer (some ⟨p,0,none⟩),.int .u32 (off:Int)] H R:=by
 apply w155
 unfold s155
 exact Qo (o:=40) hB hoff ho hl hR
theorem Qbk {x:Nat} (hx:x<18446744073709551616) (ho:41<S.vt.length) (hl:S.buf.length+16<=536870912) (hR:∀H',Qc H' p (slotN 8 x 0 41 S) F 0->R (.tuple #[]) H'):FnS prog 156 #[.pointer (some ⟨p,0,none⟩),.int .u64 (x:Int)] H R:=by
 apply w156
 unfold s156
 exact Yx (o:=41) (d:=0) hB hx (by decide) ho hl hR
theorem Qa7 {off:Nat} (hoff:off<=S.buf.length) (ho:42<S.vt.length) (hl:S.buf.length+16<=536870912) (hR:∀H',Qc H' p (slotOff off 42 S) F 0->R (.tuple #[]) H'):FnS prog 157 #[.pointer (some ⟨p,0,none⟩),.int .u32 (off:Int)] H R:=by
 apply w157
 unfold s157
 exact Qo (o:=42) hB hoff ho hl hR
theorem QcL {x:Nat} (hx:x<256) (ho:43<S.vt.length) (hl:S.buf.length+16<=536870912) (hR:∀H',Qc H' p (slotN 1 x 0 43 S) F 0->R (.tuple #[]) H'):FnS prog 158 #[.pointer (some ⟨p,0,none⟩),.int .u8 (x:Int)] H R:=by
 apply w158
 unfold s158
 exact Y5 (o:=43) (d:=0) hB hx (by decide) ho hl hR
theorem QdF {off:Nat} (hoff:off<=S.buf.length) (ho:44<S.vt.length) (hl:S.buf.length+16<=536870912) (hR:∀H',Qc H' p (slotOff off 44 S) F 0->R (.tuple #[]) H'):FnS prog 159 #[.pointer (some ⟨p,0,none⟩),.int .u32 (off:Int)] H R:=by
 apply w159
 unfold s159
 exact Qo (o:=44) hB hoff ho hl hR
theorem Qc1 {x:Nat} (hx:x<256) (ho:45<S.vt.length) (hl:S.buf.length+16<=536870912) (hR:∀H',Qc H' p (slotN 1 x 0 45 S) F 0->R (.tuple #[]) H'):FnS prog 160 #[.pointer (some ⟨p,0,none⟩),.int .u8 (x:Int)] H R:=by
 apply w160
 unfold s160
 exact Y5 (o:=45) (d:=0) hB hx (by decide) ho hl hR
theorem QcV {off:Nat} (hoff:off<=S.buf.length) (ho:46<S.vt.length) (hl:S.buf.length+16<=536870912) (hR:∀H',Qc H' p (slotOff off 46 S) F 0->R (.tuple #[]) H'):FnS prog 161 #[.pointer (some ⟨p,0,none⟩),.int .u32 (off:Int)] H R:=by
 apply w161
 unfold s161
 exact Qo (o:=46) hB hoff ho hl hR
theorem QcB {off:Nat} (hoff:off<=S.buf.length) (ho:47<S.vt.length) (hl:S.buf.length+16<=536870912) (hR:∀H',Qc H' p (slotOff off 47 S) F 0->R (.tuple #[]) H'):FnS prog 162 #[.pointer (some ⟨p,0,none⟩),.int .u32 (off:Int)] H R:=by
 apply w162
 unfold s162
 exact Qo (o:=47) hB hoff ho hl hR
theorem Qde {x:Nat} (hx:x<256) (ho:48<S.vt.length) (hl:S.buf.length+16<=536870912) (hR:∀H',Qc H' p (slotN 1 x 255 48 S) F 0->R (.tuple #[]) H'):FnS prog 163 #[.pointer (some ⟨p,0,none⟩),.int .i8 (IntKind.i8.wrap (x:Int))] H R:=by
 apply w163
 unfold s163
 exact QdK (o:=48) (d:=255) hB hx (by decide) ho hl hR
theorem Qh1 {S0:BS} {n c:Nat} (h:YA S0 n c S) (hn:n<1000) (hv:Qgx S0) (hl:S0.buf.length+c+4096<=536870912) (hvl:S0.vts.length<=S0.buf.length)
  (hR:∀H',Qc H' p (endObj S) F 0->R (.int .u32 ((putOff 0 S).buf.length:Nat)) H'):FnS prog 164 #[.pointer (some ⟨p,0,none⟩)] H R:=by
 apply w164
 unfold s164
 exact QhC hB h hn hv hl hvl hR
theorem QhF (hn:S.nested=false) (hR:∀H',Qc H' p (Qw 3 S) F r->R (.tuple #[]) H'):FnS prog 263 #[.pointer (some ⟨p,0,none⟩)] H R:=by
 apply w263
 unfold s263
 exact YU (n:=3) hB hn (by decide) hR
theorem Qhz {off:Nat} (hoff:off<=S.buf.length) (ho:0<S.vt.length) (hl:S.buf.length+16<=536870912) (hR:∀H',Qc H' p (slotOff off 0 S) F 0->R (.tuple #[]) H'):FnS prog 264 #[.pointer (some ⟨p,0,none⟩),.int .u32 (off:Int)] H R:=by
 apply w264
 unfold s264
 exact Qo (o:=0) hB hoff ho hl hR
theorem Qh4 {x:Nat} (hx:x<18446744073709551616) (ho:1<S.vt.length) (hl:S.buf.length+16<=536870912) (hR:∀H',Qc H' p (slotN 8 x 0 1 S) F 0->R (.tuple #[]) H'):FnS prog 265 #[.pointer (some ⟨p,0,none⟩),.int .i64 (IntKind.i64.wrap (x:Int))] H R:=by
 apply w265
 unfold s265
 exact ZE (o:=1) (d:=0) hB hx (by decide) ho hl hR
theorem Qg9 {x:Nat} (hx:x<65536) (ho:2<S.vt.length) (hl:S.buf.length+16<=536870912) (hR:∀H',Qc H' p (slotN 2 x 0 2 S) F 0->R (.tuple #[]) H'):FnS prog 266 #[.pointer (some ⟨p,0,none⟩),.int .u16 (x:Int)] H R:=by
 apply w266
 unfold s266
 exact Qdd (o:=2) (d:=0) hB hx (by decide) ho hl hR
theorem Example_StatEnd {S0:BS} {n c:Nat} (h:YA S0 n c S) (hn:n<1000) (hv:Qgx S0) (hl:S0.buf.length+c+4096<=536870912) (hvl:S0.vts.length<=S0.buf.length)
  (hR:∀H',Qc H' p (endObj S) F 0->R (.int .u32 ((putOff 0 S).buf.length:Nat)) H'):FnS prog 267 #[.pointer (some ⟨p,0,none⟩)] H R:=by
 apply w267
 unfold s267
 exact QhC hB h hn hv hl hvl hR
theorem Qd5 (hn:S.nested=false) (hR:∀H',Qc H' p (Qw 0 S) F r->R (.tuple #[]) H'):FnS prog 272 #[.pointer (some ⟨p,0,none⟩)] H R:=by
 apply w272
 unfold s272
 exact YU (n:=0) hB hn (by decide) hR
theorem Qdu {S0:BS} {n c:Nat} (h:YA S0 n c S) (hn:n<1000) (hv:Qgx S0) (hl:S0.buf.length+c+4096<=536870912) (hvl:S0.vts.length<=S0.buf.length)
  (hR:∀H',Qc H' p (endObj S) F 0->R (.int .u32 ((putOff 0 S).buf.length:Nat)) H'):FnS prog 273 #[.pointer (some ⟨p,0,none⟩)] H R:=by
 apply w273
 unfold s273
 exact QhC hB h hn hv hl hvl hR
theorem QeU (hn:S.nested=false) (hR:∀H',Qc H' p (Qw 1 S) F r->R (.tuple #[]) H'):FnS prog 274 #[.pointer (some ⟨p,0,none⟩)] H R:=by
 apply w274
 unfold s274
 exact YU (n:=1) hB hn (by decide) hR
theorem QeT {x:Nat} (hx:x<18446744073709551616) (ho:0<S.vt.length) (hl:S.buf.length+16<=536870912) (hR:∀H',Qc H' p (slotN 8 x 0 0 S) F 0->R (.tuple #[]) H'):FnS prog 275 #[.pointer (some ⟨p,0,none⟩),.int .u64 (x:Int)] H R:=by
 apply w275
 unfold s275
 exact Yx (o:=0) (d:=0) hB hx (by decide) ho hl hR
theorem Qfv {S0:BS} {n c:Nat} (h:YA S0 n c S) (hn:n<1000) (hv:Qgx S0) (hl:S0.buf.length+c+4096<=536870912) (hvl:S0.vts.length<=S0.buf.length)
  (hR:∀H',Qc H' p (endObj S) F 0->R (.int .u32 ((putOff 0 S).buf.length:Nat)) H'):FnS prog 276 #[.pointer (some ⟨p,0,none⟩)] H R:=by
 apply w276
 unfold s276
 exact QhC hB h hn hv hl hvl hR
theorem Qbl (hn:S.nested=false) (hR:∀H',Qc H' p (Qw 1 S) F r->R (.tuple #[]) H'):FnS prog 321 #[.pointer (some ⟨p,0,none⟩)] H R:=by
 apply w321
 unfold s321
 exact YU (n:=1) hB hn (by decide) hR
theorem QaZ {x:Nat} (hx:x<256) (ho:0<S.vt.length) (hl:S.buf.length+16<=536870912) (hR:∀H',Qc H' p (slotN 1 x 2 0 S) F 0->R (.tuple #[]) H'):FnS prog 322 #[.pointer (some ⟨p,0,none⟩),.int .u8 (x:Int)] H R:=by
 apply w322
 unfold s322
 exact Y5 (o:=0) (d:=2) hB hx (by decide) ho hl hR
theorem QbY {S0:BS} {n c:Nat} (h:YA S0 n c S) (hn:n<1000) (hv:Qgx S0) (hl:S0.buf.length+c+4096<=536870912) (hvl:S0.vts.length<=S0.buf.length)
  (hR:∀H',Qc H' p (endObj S) F 0->R (.int .u32 ((putOff 0 S).buf.length:Nat)) H'):FnS prog 323 #[.pointer (some ⟨p,0,none⟩)] H R:=by
 apply w323
 unfold s323
 exact QhC hB h hn hv hl hvl hR
theorem Example2_MonsterStart (hn:S.nested=false) (hR:∀H',Qc H' p (Qw 0 S) F r->R (.tuple #[]) H'):FnS prog 324 #[.pointer (some ⟨p,0,none⟩)] H R:=by
 apply w324
 unfold s324
 exact YU (n:=0) hB hn (by decide) hR
theorem Example2_MonsterEnd {S0:BS} {n c:Nat} (h:YA S0 n c S) (hn:n<1000) (hv:Qgx S0) (hl:S0.buf.length+c+4096<=536870912) (hvl:S0.vts.length<=S0.buf.length)
  (hR:∀H',Qc H' p (endObj S) F 0->R (.int .u32 ((putOff 0 S).buf.length:Nat)) H'):FnS prog 325 #[.pointer (some ⟨p,0,none⟩)] H R:=by
 apply w325
 unfold s325
 exact QhC hB h hn hv hl hvl hR
omit hB in
theorem QdE {k a:Nat} {S:BS} (h:(S.buf.length+a)%k=0) (hm:k<=S.min):prep k a S=S:=by
 unfold prep
 rw[YT h,show Nat.max S.min k=S.min from Nat.max_eq_left hm]
 rfl
theorem al_Byte {b:UInt8} (ha:S.buf.length%1=0) (hm:1<=S.min) (hl:S.buf.length+16<=536870912) (hR:∀H',Qc H' p (place [b] S) F (r-1)->R (.tuple #[]) H'):FnS prog 113 #[.pointer (some ⟨p,0,none⟩),.int .u8 (b.toNat:Int)] H R:=by
 refine Qcv hB hl ?_
 intro H' h'
 have e:putN 1 [b] S=place [b] S:=by unfold putN;rw[QdE (by simpa using ha) hm]
 rw[e,YT ha]at h'
 refine hR H' (h'.room ?_)
 have:r-0<=Nat.max (r-0) (1+1):=Nat.le_max_left _ _
 generalize Nat.max (r-0) (1+1)=z at *
 omega
theorem al_Bool {b:Bool} (ha:S.buf.length%1=0) (hm:1<=S.min) (hl:S.buf.length+16<=536870912) (hR:∀H',Qc H' p (place [if b then 1 else 0] S) F (r-1)->R (.tuple #[]) H'):FnS prog 93 #[.pointer (some ⟨p,0,none⟩),.bool b] H R:=by
 refine Qfi hB hl ?_
 intro H' h'
 have e:putN 1 [if b then 1 else 0] S=place [if b then 1 else 0] S:=by unfold putN;rw[QdE (by simpa using ha) hm]
 rw[e,YT ha]at h'
 refine hR H' (h'.room ?_)
 have:r-0<=Nat.max (r-0) (1+1):=Nat.le_max_left _ _
 generalize Nat.max (r-0) (1+1)=z at *
 omega
theorem al_Int8 {x:Int} (ha:S.buf.length%1=0) (hm:1<=S.min) (hl:S.buf.length+16<=536870912) (hR:∀H',Qc H' p (place (leB x 1) S) F (r-1)->R (.tuple #[]) H'):FnS prog 326 #[.pointer (some ⟨p,0,none⟩),.int .i8 x] H R:=by
 refine Qct hB hl ?_
 intro H' h'
 have e:putN 1 (leB x 1) S=place (leB x 1) S:=by unfold putN;rw[QdE (by simpa using ha) hm]
 rw[e,YT ha]at h'
 refine hR H' (h'.room ?_)
 have:r-0<=Nat.max (r-0) (1+1):=Nat.le_max_left _ _
 generalize Nat.max (r-0) (1+1)=z at *
 omega
theorem al_Int16 {x:Int} (ha:S.buf.length%2=0) (hm:2<=S.min) (hl:S.buf.length+16<=536870912) (hR:∀H',Qc H' p (place (leB x 2) S) F (r-2)->R (.tuple #[]) H'):FnS prog 327 #[.pointer (some ⟨p,0,none⟩),.int .i16 x] H R:=by
 refine Qc4 hB hl ?_
 intro H' h'
 have e:putN 2 (leB x 2) S=place (leB x 2) S:=by unfold putN;rw[QdE (by simpa using ha) hm]
 rw[e,YT ha]at h'
 refine hR H' (h'.room ?_)
 have:r-0<=Nat.max (r-0) (2+1):=Nat.le_max_left _ _
 generalize Nat.max (r-0) (2+1)=z at *
 omega
theorem al_Uint32 {x:Int} (ha:S.buf.length%4=0) (hm:4<=S.min) (hl:S.buf.length+16<=536870912) (hR:∀H',Qc H' p (place (leB x 4) S) F (r-4)->R (.tuple #[]) H'):FnS prog 330 #[.pointer (some ⟨p,0,none⟩),.int .u32 x] H R:=by
 refine QbT hB hl ?_
 intro H' h'
 have e:putN 4 (leB x 4) S=place (leB x 4) S:=by unfold putN;rw[QdE (by simpa using ha) hm]
 rw[e,YT ha]at h'
 refine hR H' (h'.room ?_)
 have:r-0<=Nat.max (r-0) (4+1):=Nat.le_max_left _ _
 generalize Nat.max (r-0) (4+1)=z at *
 omega
theorem Qhk {x:Nat} (ha:S.buf.length%4=0) (hm:4<=S.min) (hl:S.buf.length+16<=536870912) (hR:∀H',Qc H' p (place (leB x 4) S) F (r-4)->R (.tuple #[]) H'):FnS prog 334 #[.pointer (some ⟨p,0,none⟩),.float .f32 x] H R:=by
 refine Qbt hB hl ?_
 intro H' h'
 have e:putN 4 (leB x 4) S=place (leB x 4) S:=by unfold putN;rw[QdE (by simpa using ha) hm]
 rw[e,YT ha]at h'
 refine hR H' (h'.room ?_)
 have:r-0<=Nat.max (r-0) (4+1):=Nat.le_max_left _ _
 generalize Nat.max (r-0) (4+1)=z at *
 omega
theorem al_Int64 {x:Int} (ha:S.buf.length%8=0) (hm:8<=S.min) (hl:S.buf.length+16<=536870912) (hR:∀H',Qc H' p (place (leB x 8) S) F (r-8)->R (.tuple #[]) H'):FnS prog 99 #[.pointer (some ⟨p,0,none⟩),.int .i64 x] H R:=by
 refine Qcf hB hl ?_
 intro H' h'
 have e:putN 8 (leB x 8) S=place (leB x 8) S:=by unfold putN;rw[QdE (by simpa using ha) hm]
 rw[e,YT ha]at h'
 refine hR H' (h'.room ?_)
 have:r-0<=Nat.max (r-0) (8+1):=Nat.le_max_left _ _
 generalize Nat.max (r-0) (8+1)=z at *
 omega
theorem al_Uint64 {x:Int} (ha:S.buf.length%8=0) (hm:8<=S.min) (hl:S.buf.length+16<=536870912) (hR:∀H',Qc H' p (place (leB x 8) S) F (r-8)->R (.tuple #[]) H'):FnS prog 106 #[.pointer (some ⟨p,0,none⟩),.int .u64 x] H R:=by
 refine QbQ hB hl ?_
 intro H' h'
 have e:putN 8 (leB x 8) S=place (leB x 8) S:=by unfold putN;rw[QdE (by simpa using ha) hm]
 rw[e,YT ha]at h'
 refine hR H' (h'.room ?_)
 have:r-0<=Nat.max (r-0) (8+1):=Nat.le_max_left _ _
 generalize Nat.max (r-0) (8+1)=z at *
 omega
theorem al_Float64 {x:Nat} (ha:S.buf.length%8=0) (hm:8<=S.min) (hl:S.buf.length+16<=536870912) (hR:∀H',Qc H' p (place (leB x 8) S) F (r-8)->R (.tuple #[]) H'):FnS prog 101 #[.pointer (some ⟨p,0,none⟩),.float .f64 x] H R:=by
 refine Qe2 hB hl ?_
 intro H' h'
 have e:putN 8 (leB x 8) S=place (leB x 8) S:=by unfold putN;rw[QdE (by simpa using ha) hm]
 rw[e,YT ha]at h'
 refine hR H' (h'.room ?_)
 have:r-0<=Nat.max (r-0) (8+1):=Nat.le_max_left _ _
 generalize Nat.max (r-0) (8+1)=z at *
 omega
theorem al_UOffsetT {off:Nat} (ha:S.buf.length%4=0) (hm:4<=S.min) (ho:off<=S.buf.length) (hl:S.buf.length+16<=536870912) (hR:∀H',Qc H' p (place (leB ((S.buf.length-off+4:Nat):Int) 4) S) F (r-4)->R (.tuple #[]) H'):
  FnS prog 71 #[.pointer (some ⟨p,0,none⟩),.int .u32 (off:Nat)] H R:=by
 refine ZL hB hl ho ?_
 intro H' h'
 have e:putOff off S=place (leB ((S.buf.length-off+4:Nat):Int) 4) S:=by unfold putOff;rw[QdE (by simpa using ha) hm]
 rw[e,YT ha]at h'
 refine hR H' (h'.room ?_)
 have:r-0<=Nat.max (r-0) 5:=Nat.le_max_left _ _
 generalize Nat.max (r-0) 5=z at *
 omega
theorem al_Prep {size add k:Nat} (hsz:size=2^k) (hk:k<=3) (ha:(S.buf.length+add)%size=0) (hm:size<=S.min) (hl:S.buf.length+add+16<=536870912) (hR:∀H',Qc H' p S F r->R (.tuple #[]) H'):
  FnS prog 70 #[.pointer (some ⟨p,0,none⟩),.int .i64 (size:Nat),.int .i64 (add:Nat)] H R:=by
 refine QX hB hsz hk rfl hl ?_
 intro H' h'
 rw[QdE ha hm,YT ha]at h'
 exact hR H' (h'.room (Nat.le_max_left _ _))
def QaJ (a b:Nat):List UInt8:=leB (a:Int) 2++(leB (b:Int) 1++[0])
def Zv (a b:Nat):List UInt8:=leB (a:Int) 4++leB (b:Int) 4
def vec3B (x y z t1 t2 a b:Nat):List UInt8:=
 leB (x:Int) 4++(leB (y:Int) 4++(leB (z:Int) 4++([0,0,0,0]++(leB (t1:Int) 8++(leB (t2:Int) 1++([0]++(leB (a:Int) 2++(leB (b:Int) 1++([0]++[0,0])))))))))
omit hB in
theorem YX (a b:List UInt8) (S:BS):place a (place b S)=place (a++b) S:=by simp[place]
omit hB in
theorem Y3 (a:List UInt8) (S:BS):(place a S).buf.length=a.length+S.buf.length:=by simp[place]
omit hB in
theorem Qas (a:List UInt8) (S:BS):(place a S).min=S.min:=rfl
theorem QgY {a b:Nat} (hr:4<=r) (ha:S.buf.length%2=0) (hm:2<=S.min) (hl:S.buf.length+32<=536870912) (hR:∀H' v,Qc H' p (place (QaJ a b) S) F (r-4)->R v H'):
  FnS prog 261 #[.pointer (some ⟨p,0,none⟩),.int .i16 (IntKind.i16.wrap (a:Int)),.int .i8 (IntKind.i8.wrap (b:Int))] H R:=by
 apply w261
 unfold s261
 refine al_Prep (size:=2) (add:=4) (k:=1) hB (by decide) (by decide) (by omega) hm (by omega) ?_
 intro H1 h1
 refine Qaw (n:=1) h1 rfl (by omega) ?_
 intro H2 h2
 have e1:(List.replicate 1 (0:UInt8))=[0]:=rfl
 rw[e1]at h2
 refine al_Int8 h2 (by rw[Y3];exact Nat.mod_one _) (by rw[Qas];omega) (by rw[Y3];simp;omega) ?_
 intro H3 h3
 rw[Qdj (by decide),YX]at h3
 refine al_Int16 h3 (by rw[Y3];simp[Qi];omega) (by rw[Qas];omega) (by rw[Y3];simp[Qi];omega) ?_
 intro H4 h4
 rw[Qdj (by decide),YX]at h4
 refine Yh h4 ?_
 exact hR H4 _ (h4.room (by omega))
theorem QfD {a b:Nat} (hr:8<=r) (ha:S.buf.length%4=0) (hm:4<=S.min) (hl:S.buf.length+32<=536870912) (hR:∀H' v,Qc H' p (place (Zv a b) S) F (r-8)->R v H'):
  FnS prog 269 #[.pointer (some ⟨p,0,none⟩),.int .u32 (a:Int),.int .u32 (b:Int)] H R:=by
 apply w269
 unfold s269
 refine al_Prep (size:=4) (add:=8) (k:=2) hB (by decide) (by decide) (by omega) hm (by omega) ?_
 intro H1 h1
 refine al_Uint32 h1 (by omega) hm (by omega) ?_
 intro H3 h3
 refine al_Uint32 h3 (by rw[Y3];simp[Qi];omega) (by rw[Qas];omega) (by rw[Y3];simp[Qi];omega) ?_
 intro H4 h4
 rw[YX]at h4
 refine Yh h4 ?_
 exact hR H4 _ (h4.room (by omega))
set_option maxHeartbeats 1000000 in
theorem QgT {x y z t1 t2 a b:Nat} (ht2:t2<256) (hl:S.buf.length+96<=536870912) (hR:∀H',Qc H' p (place (vec3B x y z t1 t2 a b) (prep 8 32 S)) F 0->R (.int .u32 ((place (vec3B x y z t1 t2 a b) (prep 8 32 S)).buf.length:Nat)) H'):
  FnS prog 279 #[.pointer (some ⟨p,0,none⟩),.float .f32 x,.float .f32 y,.float .f32 z,.float .f64 t1,.int .u8 (t2:Int),.int .i16 (IntKind.i16.wrap (a:Int)),.int .i8 (IntKind.i8.wrap (b:Int))] H R:=by
 apply w279
 unfold s279
 refine QX (size:=8) (add:=32) (k:=3) hB (by decide) (by decide) rfl (by omega) ?_
 intro H1 h1
 have hr1:41<=Nat.max (r-padOf 8 (S.buf.length+32)) (8+32+1):=Nat.le_max_right _ _
 replace h1:=h1.room hr1
 have hm:8<=(prep 8 32 S).min:=Nat.le_max_right _ _
 have hal:(prep 8 32 S).buf.length%8=0:=by
  have:=Qco (size:=8) (n:=S.buf.length+32) (by decide)
  rw[Qa5];omega
 have hll:(prep 8 32 S).buf.length<=S.buf.length+7:=by
  have:=Zk (size:=8) (n:=S.buf.length+32) (by decide)
  rw[Qa5];omega
 generalize prep 8 32 S=S1 at *
 refine Qaw (n:=2) h1 rfl (by omega) ?_
 intro H2 h2
 rw[show List.replicate 2 (0:UInt8)=[0,0] from rfl]at h2
 refine al_Prep (size:=2) (add:=4) (k:=1) h2 (by decide) (by decide) (by rw[Y3];simp;omega) (by rw[Qas];omega) (by rw[Y3];simp;omega) ?_
 intro H3 h3
 refine Qaw (n:=1) h3 rfl (by omega) ?_
 intro H4 h4
 rw[show List.replicate 1 (0:UInt8)=[0] from rfl,YX]at h4
 refine al_Int8 h4 (Nat.mod_one _) (by rw[Qas];omega) (by rw[Y3];simp;omega) ?_
 intro H5 h5
 rw[Qdj (by decide),YX]at h5
 refine al_Int16 h5 (by rw[Y3];simp[Qi];omega) (by rw[Qas];omega) (by rw[Y3];simp[Qi];omega) ?_
 intro H6 h6
 rw[Qdj (by decide),YX]at h6
 refine Qaw (n:=1) h6 rfl (by omega) ?_
 intro H7 h7
 rw[show List.replicate 1 (0:UInt8)=[0] from rfl,YX]at h7
 have eb:((UInt8.ofNat t2).toNat:Int)=(t2:Int):=by rw[UInt8.toNat_ofNat_of_lt' ht2]
 have eb2:[UInt8.ofNat t2]=leB (t2:Int) 1:=by
  rw[leB_1]
  unfold Zc
  congr 2
  simp;omega
 rw[<-eb]
 refine al_Byte h7 (Nat.mod_one _) (by rw[Qas];omega) (by rw[Y3];simp[Qi];omega) ?_
 intro H8 h8
 rw[eb2,YX]at h8
 refine al_Float64 h8 (by rw[Y3];simp[Qi];omega) (by rw[Qas];omega) (by rw[Y3];simp[Qi];omega) ?_
 intro H9 h9
 rw[YX]at h9
 refine Qaw (n:=4) h9 rfl (by omega) ?_
 intro H10 h10
 rw[show List.replicate 4 (0:UInt8)=[0,0,0,0] from rfl,YX]at h10
 refine Qhk h10 (by rw[Y3];simp[Qi];omega) (by rw[Qas];omega) (by rw[Y3];simp[Qi];omega) ?_
 intro H11 h11
 rw[YX]at h11
 refine Qhk h11 (by rw[Y3];simp[Qi];omega) (by rw[Qas];omega) (by rw[Y3];simp[Qi];omega) ?_
 intro H12 h12
 rw[YX]at h12
 refine Qhk h12 (by rw[Y3];simp[Qi];omega) (by rw[Qas];omega) (by rw[Y3];simp[Qi];omega) ?_
 intro H13 h13
 rw[YX]at h13
 refine Yh h13 ?_
 exact hR H13 (h13.room (Nat.zero_le _))
end
end Go.Proofs
namespace Go.Proofs
open Go Go.Vc
open Tryz (prog)
theorem byteN_getElem? {bs:List UInt8} {i:Nat}:byteN bs i=((bs[i]?).getD 0).toNat:=rfl
theorem byteN_putL {bs xs:List UInt8} {q i:Nat} (h:q+xs.length<=bs.length):byteN (QaC bs q xs) i=if q<=i/\i<q+xs.length then byteN xs (i-q) else byteN bs i:=by
 rw[QdY _ _ _ h]
 simp only[byteN_getElem?]
 by_cases h1:i<q
 ·have e:(bs.take q++xs++bs.drop (q+xs.length))[i]?=bs[i]?:=by
   rw[List.getElem?_append_left (by simp;omega),List.getElem?_append_left (by simp;omega),List.getElem?_take,if_pos h1]
  rw[e,if_neg (by omega)]
 ·by_cases h2:i<q+xs.length
  ·have e:(bs.take q++xs++bs.drop (q+xs.length))[i]?=xs[i-q]?:=by
    rw[List.getElem?_append_left (by simp;omega),List.getElem?_append_right (by simp;omega)]
    congr 1;simp;omega
   rw[e,if_pos (by omega)]
  ·have e:(bs.take q++xs++bs.drop (q+xs.length))[i]?=bs[i]?:=by
    rw[List.getElem?_append_right (by simp;omega),List.getElem?_drop]
    congr 1;simp;omega
   rw[e,if_neg (by omega)]
theorem Qfx {bs xs:List UInt8} {q i:Nat} (h:q+xs.length<=bs.length) (hi:i+2<=q\/q+xs.length<=i):le2 (QaC bs q xs) i=le2 bs i:=by
 unfold le2
 rw[byteN_putL h,byteN_putL h,if_neg (by omega),if_neg (by omega)]
theorem QfT (x i:Nat):(Zc (x:Int) i).toNat=x/2^(8*i)%256:=by
 have h:=Qhg (x:Int) i
 have e:((x:Int)/2^(8*i))%256=((x/2^(8*i)%256:Nat):Int):=by
  rw[Int.natCast_emod,Int.natCast_ediv,Int.natCast_pow];rfl
 rw[e]at h
 omega
theorem Qex {x:Int} {k i:Nat} (hi:i<k):byteN (leB x k) i=(Zc x i).toNat:=by
 unfold byteN leB
 congr 1
 simp[List.getD,hi]
theorem QhL {x:Nat} {k:Nat} (hk:2<=k) (rest:List UInt8):le2 (leB (x:Int) k++rest) 0=x%65536:=by
 have hb:∀i,i<k->byteN (leB (x:Int) k++rest) i=x/2^(8*i)%256:=by
  intro i hi
  have:byteN (leB (x:Int) k++rest) i=byteN (leB (x:Int) k) i:=by
   unfold byteN
   congr 1
   simp only[List.getD]
   rw[List.getElem?_append_left (by rw[Qi];exact hi)]
  rw[this,Qex hi,QfT]
 unfold le2
 rw[hb 0 (by omega),Nat.zero_add,hb 1 (by omega)]
 simp;omega
theorem QfK {x:Nat} {k:Nat} (hk:4<=k) (rest:List UInt8):le4 (leB (x:Int) k++rest) 0=x%4294967296:=by
 have hb:∀i,i<k->byteN (leB (x:Int) k++rest) i=x/2^(8*i)%256:=by
  intro i hi
  have:byteN (leB (x:Int) k++rest) i=byteN (leB (x:Int) k) i:=by
   unfold byteN
   congr 1
   simp only[List.getD]
   rw[List.getElem?_append_left (by rw[Qi];exact hi)]
  rw[this,Qex hi,QfT]
 rw[le4_eq,hb 0 (by omega),hb (0+1) (by omega),hb (0+2) (by omega),hb (0+3) (by omega)]
 simp;omega
theorem le8_leB {x:Nat} (rest:List UInt8):le8 (leB (x:Int) 8++rest) 0=x%18446744073709551616:=by
 have hb:∀i,i<8->byteN (leB (x:Int) 8++rest) i=x/2^(8*i)%256:=by
  intro i hi
  have:byteN (leB (x:Int) 8++rest) i=byteN (leB (x:Int) 8) i:=by
   unfold byteN
   congr 1
   simp only[List.getD]
   rw[List.getElem?_append_left (by rw[Qi];exact hi)]
  rw[this,Qex hi,QfT]
 rw[le8_eq,hb 0 (by omega),hb (0+1) (by omega),hb (0+2) (by omega),hb (0+3) (by omega),hb (0+4) (by omega),hb (0+5) (by omega),hb (0+6) (by omega),hb (0+7) (by omega)]
 simp;omega
structure Inv (S:BS):Prop where
 nested:S.nested=false
 vts:Qgx S
 nv:S.vts.length<=S.buf.length
 min:P2 S.min
theorem Inv.new:Inv Qcp:=⟨rfl,fun o ho=>by simp[Qcp]at ho,Nat.zero_le _,P2_1⟩
theorem wrEnt_ext (oo:Nat):∀(vs:List Nat) (S:BS),∃x,(ZH oo vs S).buf=x++S.buf/\2*vs.length<=x.length/\x.length<=3*vs.length
 |[],S=>⟨[],rfl,by simp,by simp⟩
 |v::vs,S=>by
  obtain ⟨x,hx,h1,h2⟩:=wrEnt_ext oo vs S
  have hp:=Zk (size:=2) (n:=(ZH oo vs S).buf.length+0) (by decide)
  refine ⟨leB ((if v≠0 then oo-v else 0:Nat):Int) 2++(List.replicate (padOf 2 ((ZH oo vs S).buf.length+0)) 0++x),?_,?_,?_⟩
  ·simp[ZH,putN,place,prep,hx]
  ·simp only[List.length_append,Qi,List.length_replicate,List.length_cons];omega
  ·simp only[List.length_append,Qi,List.length_replicate,List.length_cons];omega
theorem QeN (k:Nat) (xs:List UInt8) (S:BS):(putN k xs S).buf=xs++(List.replicate (padOf k (S.buf.length+0)) 0++S.buf):=by
 simp[putN,place,prep]
theorem wrEnt_min (oo:Nat):∀(vs:List Nat) (S:BS),P2 S.min->P2 (ZH oo vs S).min
 |[],_,h=>h
 |_::vs,S,h=>(wrEnt_min oo vs S h).max P2_2
theorem Inv.endObj {S0 S:BS} {n c:Nat} (h:YA S0 n c S) (h0:Inv S0) (hn:n<1000):
  Inv (endObj S)/\(endObj S).buf.length<=S.buf.length+3*n+16/\S.buf.length+4<=(endObj S).buf.length/\(putOff 0 S).buf.length<=(endObj S).buf.length:=by
 obtain ⟨x,hx⟩:=h.ext
 obtain ⟨y,hy,hy1,hy2⟩:=Qdp 0 S
 have hS1:Qgx (putOff 0 S):=h0.vts.ext (S':=putOff 0 S) h.vts (x:=y++x) (by rw[hy,hx,List.append_assoc])
 have hle:∀o∈S.vts,o<=S.buf.length:=fun o ho=>by
  rw[h.vts]at ho
  have:=(h0.vts o ho).2.1
  rw[hx,List.length_append];omega
 have hS1l:(putOff 0 S).buf.length=y.length+S.buf.length:=by rw[hy,List.length_append]
 have hvl:((putOff 0 S).vt.take (Zp (putOff 0 S).vt)).length<=n:=by
  rw[List.length_take]
  have:(putOff 0 S).vt.length=n:=h.vtl
  omega
 have k2:(putOff 0 S).vts=S.vts:=rfl
 have k5:P2 (putOff 0 S).min:=h.min.max P2_4
 rw[QfB S _ _ _ _ rfl rfl rfl rfl]
 generalize hvt:(putOff 0 S).vt.take (Zp (putOff 0 S).vt)=vt at *
 generalize QbO (Qai vt (putOff 0 S).buf.length (putOff 0 S).buf) (putOff 0 S).vts=ex
 generalize hoo:(putOff 0 S).buf.length=oo at *
 generalize hS1e:putOff 0 S=S1 at *
 by_cases hex:ex=0
 ·rw[if_pos hex]
  have hS2b:({S1 with vt:=vt}:BS).buf=S1.buf:=rfl
  have hS2v:({S1 with vt:=vt}:BS).vts=S1.vts:=rfl
  have hS2m:P2 ({S1 with vt:=vt}:BS).min:=k5
  generalize ({S1 with vt:=vt}:BS)=S2 at *
  obtain ⟨z,hz,hz1,hz2⟩:=wrEnt_ext oo vt S2
  have hS3m:P2 (ZH oo vt S2).min:=wrEnt_min oo vt S2 hS2m
  have hS3v:=(QdB oo vt S2).2.1
  generalize ZH oo vt S2=S3 at *
  have e4:=QeN 2 (leB ((oo-S.oe:Nat):Int) 2) S3
  have hS4m:P2 (putN 2 (leB ((oo-S.oe:Nat):Int) 2) S3).min:=hS3m.max P2_2
  have hp4:=Zk (size:=2) (n:=S3.buf.length+0) (by decide)
  generalize putN 2 (leB ((oo-S.oe:Nat):Int) 2) S3=S4 at *
  have e5:=QeN 2 (leB ((2*(vt.length+2):Nat):Int) 2) S4
  have hS5m:P2 (putN 2 (leB ((2*(vt.length+2):Nat):Int) 2) S4).min:=hS4m.max P2_2
  have hp5:=Zk (size:=2) (n:=S4.buf.length+0) (by decide)
  have hle2:le2 (putN 2 (leB ((2*(vt.length+2):Nat):Int) 2) S4).buf 0=2*(vt.length+2):=by
   rw[e5,QhL (Nat.le_refl _),Nat.mod_eq_of_lt (by omega)]
  generalize putN 2 (leB ((2*(vt.length+2):Nat):Int) 2) S4=S5 at *
  obtain ⟨w,hw,hw1,hw2⟩:∃w,S5.buf=w++S1.buf/\2*vt.length+4<=w.length/\w.length<=3*n+6:=by
   refine ⟨leB ((2*(vt.length+2):Nat):Int) 2++(List.replicate (padOf 2 (S4.buf.length+0)) 0++(leB ((oo-S.oe:Nat):Int) 2++(List.replicate (padOf 2 (S3.buf.length+0)) 0++z))),?_,?_,?_⟩
   ·rw[e5,e4,hz,hS2b];simp
   ·simp only[List.length_append,Qi,List.length_replicate];omega
   ·simp only[List.length_append,Qi,List.length_replicate];omega
  have hw3:S5.buf.length-oo=w.length:=by rw[hw,List.length_append,hoo];omega
  have hwl:S5.buf.length=w.length+oo:=by rw[hw,List.length_append,hoo]
  rw[hw3]
  have hpl:(QaC S5.buf w.length (leB (w.length:Int) 4)).length=S5.buf.length:=Yi _ _ _
  refine ⟨⟨rfl,?_,?_,hS5m⟩,?_,?_,?_⟩
  ·intro o ho
   show 0<o/\o<=(QaC S5.buf w.length (leB (w.length:Int) 4)).length/\4<=le2 (QaC S5.buf w.length (leB (w.length:Int) 4)) ((QaC S5.buf w.length (leB (w.length:Int) 4)).length-o)/\le2 (QaC S5.buf w.length (leB (w.length:Int) 4)) ((QaC S5.buf w.length (leB (w.length:Int) 4)).length-o)<=o
   rw[hpl]
   rcases List.mem_append.1 (show o∈S1.vts++[S5.buf.length] from ho) with ho|ho
   ·have ho2:=hle o (by rw[<-k2];exact ho)
    obtain ⟨q1,q2,q3,q4⟩:=hS1 o ho
    have e:le2 (QaC S5.buf w.length (leB (w.length:Int) 4)) (S5.buf.length-o)=le2 S1.buf (S1.buf.length-o):=by
     rw[Qfx (by rw[Qi];omega) (by rw[Qi];omega),hw,show (w++S1.buf).length-o=w.length+(S1.buf.length-o) by rw[List.length_append];omega,YP]
    rw[e]
    exact ⟨q1,by omega,q3,q4⟩
   ·have:o=S5.buf.length:=by simpa using ho
    subst this
    rw[Nat.sub_self,Qfx (by rw[Qi];omega) (by omega),hle2]
    omega
  ·show (S1.vts++[S5.buf.length]).length<=(QaC S5.buf w.length (leB (w.length:Int) 4)).length
   rw[hpl,List.length_append,k2,h.vts]
   have:=h0.nv
   have:=h.le
   simp;omega
  ·show (QaC S5.buf w.length (leB (w.length:Int) 4)).length<=_
   rw[hpl];omega
  ·show _<=(QaC S5.buf w.length (leB (w.length:Int) 4)).length
   rw[hpl];omega
  ·show _<=(QaC S5.buf w.length (leB (w.length:Int) 4)).length
   rw[hpl];omega
 ·rw[if_neg hex]
  have hpl:(QaC S1.buf 0 (leB ((ex:Int)-(oo:Int)) 4)).length=S1.buf.length:=Yi _ _ _
  refine ⟨⟨rfl,?_,?_,k5⟩,?_,?_,?_⟩
  ·intro o ho
   have ho2:=hle o (by rw[<-k2];exact ho)
   obtain ⟨q1,q2,q3,q4⟩:=hS1 o ho
   show 0<o/\o<=(QaC S1.buf 0 (leB ((ex:Int)-(oo:Int)) 4)).length/\4<=le2 (QaC S1.buf 0 (leB ((ex:Int)-(oo:Int)) 4)) ((QaC S1.buf 0 (leB ((ex:Int)-(oo:Int)) 4)).length-o)/\le2 (QaC S1.buf 0 (leB ((ex:Int)-(oo:Int)) 4)) ((QaC S1.buf 0 (leB ((ex:Int)-(oo:Int)) 4)).length-o)<=o
   rw[hpl,Qfx (by rw[Qi];omega) (by rw[Qi];omega)]
   exact ⟨q1,q2,q3,q4⟩
  ·show S1.vts.length<=(QaC S1.buf 0 (leB ((ex:Int)-(oo:Int)) 4)).length
   rw[hpl,k2,h.vts]
   have:=h0.nv
   have:=h.le
   omega
  ·show (QaC S1.buf 0 (leB ((ex:Int)-(oo:Int)) 4)).length<=_
   rw[hpl];omega
  ·show _<=(QaC S1.buf 0 (leB ((ex:Int)-(oo:Int)) 4)).length
   rw[hpl];omega
  ·show _<=(QaC S1.buf 0 (leB ((ex:Int)-(oo:Int)) 4)).length
   rw[hpl];omega
end Go.Proofs
namespace Go.Proofs
open Go Go.Vc
open Tryz (prog)
set_option maxRecDepth 100000
def s21 (b a:Value) (h:Qf) (R:Kn):Prop:=
 Ql prog .eql 69 b (.pointer none) fun z0=>
 IfK z0
 (R (.int .u32 0) h)
 (Qs b fun z1=>
 Qg z1 3 fun z2=>
 LdK h z2 fun z3=>
 Qa prog 83 #[a,z3] h fun z4 d5=>
 QO (fun d6=>
 Qs b fun z5=>
 Qg z5 4 fun z6=>
 LdK d5 z6 fun z7=>
 Ql prog .neq 72 z7 (.slice none 0 0) fun z8=>
 IfK z8
 (Qs b fun z9=>
 Qg z9 4 fun a00=>
 LdK d5 a00 fun a01=>
 Qa prog 84 #[a,a01] d5 fun a02 a03=>
 d6 [a02] a03)
 (d6 [(.int .u32 0)] d5)) fun d6=>∀m2:Value,∀g7:Qf,d6 [m2] g7->
 Qs b fun a04=>
 Qg a04 6 fun a05=>
 LdK g7 a05 fun a06=>
 Qa prog 85 #[a06,a] g7 fun a07 d7=>
 QO (fun d8=>
 Qs b fun a08=>
 Qg a08 7 fun a09=>
 LdK d7 a09 fun a10=>
 Ql prog .neq 137 a10 (.slice none 0 0) fun a11=>
 IfK a11
 (Qs b fun a12=>
 Qg a12 7 fun a13=>
 LdK d7 a13 fun a14=>
 Y8 a14 fun g8=>
 Qa prog 86 #[a,g8] d7 fun _x108 a15=>
 QO (fun g9=>
 Ql prog .sub 3 g8 (.int .i64 1) fun a16=>
 Y6 [a16] a15 fun m3 m4=>∀p:Value,∀q:Qf,m3 m4 [p] q->
 Ql prog .geq 3 p (.int .i64 0) fun a17=>
 IfK a17
 (Qs b fun a18=>
 Qg a18 7 fun a19=>
 LdK q a19 fun a20=>
 Yn 1 a20 p fun a21=>
 LdK q a21 fun a22=>
 Qa prog 87 #[a22,a] q fun _x123 a23=>
 Ql prog .sub 3 p (.int .i64 1) fun a24=>
 Yb m3 m4 [a24] a23)
 (g9 [p] q)) fun g9=>∀a25:Value,∀m5:Qf,g9 [a25] m5->
 Qa prog 88 #[a,g8] m5 fun a26 a27=>
 d8 [a26] a27)
 (d8 [(.int .u32 0)] d7)) fun d8=>∀m6:Value,∀r:Qf,d8 [m6] r->
 QO (fun d9=>
 Qs b fun a28=>
 Qg a28 8 fun a29=>
 LdK r a29 fun a30=>
 Ql prog .neq 28 a30 (.slice none 0 0) fun a31=>
 IfK a31
 (Qs b fun a32=>
 Qg a32 8 fun a33=>
 LdK r a33 fun a34=>
 Y8 a34 fun c=>
 Qf5 r 68 4 z68 c c fun m7 a35=>
 QO (fun i0=>
 Y6 [(.int .i64 0)] a35 fun m8 m9=>∀d:Value,∀s:Qf,m8 m9 [d] s->
 Ql prog .lss 3 d c fun a36=>
 IfK a36
 (Qs b fun a37=>
 Qg a37 8 fun a38=>
 LdK s a38 fun a39=>
 Yn 1 a39 d fun a40=>
 LdK s a40 fun a41=>
 Qa prog 83 #[a,a41] s fun a42 a43=>
 Yn 1 m7 d fun a44=>
 StK a43 1 a44 a42 fun a45=>
 Ql prog .add 3 d (.int .i64 1) fun a46=>
 Yb m8 m9 [a46] a45)
 (i0 [d] s)) fun i0=>∀a47:Value,∀o0:Qf,i0 [a47] o0->
 Qa prog 89 #[a,c] o0 fun _x158 a48=>
 QO (fun i1=>
 Ql prog .sub 3 c (.int .i64 1) fun a49=>
 Y6 [a49] a48 fun o1 o2=>∀t:Value,∀e0:Qf,o1 o2 [t] e0->
 Ql prog .geq 3 t (.int .i64 0) fun a50=>
 IfK a50
 (Yn 1 m7 t fun a51=>
 LdK e0 a51 fun a52=>
 Qa prog 71 #[a,a52] e0 fun _x170 a53=>
 Ql prog .sub 3 t (.int .i64 1) fun a54=>
 Yb o1 o2 [a54] a53)
 (i1 [t] e0)) fun i1=>∀a55:Value,∀o3:Qf,i1 [a55] o3->
 Qa prog 88 #[a,c] o3 fun a56 a57=>
 d9 [a56] a57)
 (d9 [(.int .u32 0)] r)) fun d9=>∀o4:Value,∀u:Qf,d9 [o4] u->
 QO (fun e1=>
 Qs b fun a58=>
 Qg a58 9 fun a59=>
 LdK u a59 fun a60=>
 Ql prog .neq 146 a60 (.slice none 0 0) fun a61=>
 IfK a61
 (Qs b fun a62=>
 Qg a62 9 fun a63=>
 LdK u a63 fun a64=>
 Y8 a64 fun e=>
 Qf5 u 68 4 z68 e e fun o5 a65=>
 QO (fun i2=>
 Y6 [(.int .i64 0)] a65 fun o6 o7=>∀f:Value,∀v:Qf,o6 o7 [f] v->
 Ql prog .lss 3 f e fun a66=>
 IfK a66
 (Qs b fun a67=>
 Qg a67 9 fun a68=>
 LdK v a68 fun a69=>
 Yn 1 a69 f fun a70=>
 LdK v a70 fun a71=>
 Qa prog 21 #[a71,a] v fun a72 a73=>
 Yn 1 o5 f fun a74=>
 StK a73 1 a74 a72 fun a75=>
 Ql prog .add 3 f (.int .i64 1) fun a76=>
 Yb o6 o7 [a76] a75)
 (i2 [f] v)) fun i2=>∀a77:Value,∀o8:Qf,i2 [a77] o8->
 Qa prog 90 #[a,e] o8 fun _x205 a78=>
 QO (fun i3=>
 Ql prog .sub 3 e (.int .i64 1) fun a79=>
 Y6 [a79] a78 fun o9 p0=>∀w:Value,∀e2:Qf,o9 p0 [w] e2->
 Ql prog .geq 3 w (.int .i64 0) fun a80=>
 IfK a80
 (Yn 1 o5 w fun a81=>
 LdK e2 a81 fun a82=>
 Qa prog 71 #[a,a82] e2 fun _x217 a83=>
 Ql prog .sub 3 w (.int .i64 1) fun a84=>
 Yb o9 p0 [a84] a83)
 (i3 [w] e2)) fun i3=>∀a85:Value,∀p1:Qf,i3 [a85] p1->
 Qa prog 88 #[a,e] p1 fun a86 a87=>
 e1 [a86] a87)
 (e1 [(.int .u32 0)] u)) fun e1=>∀p2:Value,∀i4:Qf,e1 [p2] i4->
 Qs b fun a88=>
 Qg a88 10 fun a89=>
 LdK i4 a89 fun a90=>
 Qa prog 21 #[a90,a] i4 fun a91 e3=>
 QO (fun e4=>
 Qs b fun a92=>
 Qg a92 11 fun a93=>
 LdK e3 a93 fun a94=>
 Ql prog .neq 72 a94 (.slice none 0 0) fun a95=>
 IfK a95
 (Qs b fun a96=>
 Qg a96 11 fun a97=>
 LdK e3 a97 fun a98=>
 Qa prog 84 #[a,a98] e3 fun a99 b00=>
 e4 [a99] b00)
 (e4 [(.int .u32 0)] e3)) fun e4=>∀p3:Value,∀i5:Qf,e4 [p3] i5->
 Qs b fun b01=>
 Qg b01 12 fun b02=>
 LdK i5 b02 fun b03=>
 Qa prog 91 #[b03,a] i5 fun b04 e5=>
 QO (fun e6=>
 Qs b fun b05=>
 Qg b05 22 fun b06=>
 LdK e5 b06 fun b07=>
 Ql prog .neq 32 b07 (.slice none 0 0) fun b08=>
 IfK b08
 (Qs b fun b09=>
 Qg b09 22 fun b10=>
 LdK e5 b10 fun b11=>
 Y8 b11 fun i6=>
 Qa prog 92 #[a,i6] e5 fun _x256 b12=>
 QO (fun i7=>
 Ql prog .sub 3 i6 (.int .i64 1) fun b13=>
 Y6 [b13] b12 fun p4 p5=>∀y:Value,∀z:Qf,p4 p5 [y] z->
 Ql prog .geq 3 y (.int .i64 0) fun b14=>
 IfK b14
 (Qs b fun b15=>
 Qg b15 22 fun b16=>
 LdK z b16 fun b17=>
 Yn 1 b17 y fun b18=>
 LdK z b18 fun b19=>
 Qa prog 93 #[a,b19] z fun _x271 b20=>
 Ql prog .sub 3 y (.int .i64 1) fun b21=>
 Yb p4 p5 [b21] b20)
 (i7 [y] z)) fun i7=>∀b22:Value,∀p6:Qf,i7 [b22] p6->
 Qa prog 88 #[a,i6] p6 fun b23 b24=>
 e6 [b23] b24)
 (e6 [(.int .u32 0)] e5)) fun e6=>∀p7:Value,∀a0:Qf,e6 [p7] a0->
 QO (fun e7=>
 Qs b fun b25=>
 Qg b25 26 fun b26=>
 LdK a0 b26 fun b27=>
 Ql prog .neq 28 b27 (.slice none 0 0) fun b28=>
 IfK b28
 (Qs b fun b29=>
 Qg b29 26 fun b30=>
 LdK a0 b30 fun b31=>
 Y8 b31 fun g=>
 Qf5 a0 68 4 z68 g g fun p8 b32=>
 QO (fun i8=>
 Y6 [(.int .i64 0)] b32 fun p9 q0=>∀i:Value,∀a1:Qf,p9 q0 [i] a1->
 Ql prog .lss 3 i g fun b33=>
 IfK b33
 (Qs b fun b34=>
 Qg b34 26 fun b35=>
 LdK a1 b35 fun b36=>
 Yn 1 b36 i fun b37=>
 LdK a1 b37 fun b38=>
 Qa prog 83 #[a,b38] a1 fun b39 b40=>
 Yn 1 p8 i fun b41=>
 StK b40 1 b41 b39 fun b42=>
 Ql prog .add 3 i (.int .i64 1) fun b43=>
 Yb p9 q0 [b43] b42)
 (i8 [i] a1)) fun i8=>∀b44:Value,∀q1:Qf,i8 [b44] q1->
 Qa prog 94 #[a,g] q1 fun _x306 b45=>
 QO (fun i9=>
 Ql prog .sub 3 g (.int .i64 1) fun b46=>
 Y6 [b46] b45 fun q2 q3=>∀a2:Value,∀e8:Qf,q2 q3 [a2] e8->
 Ql prog .geq 3 a2 (.int .i64 0) fun b47=>
 IfK b47
 (Yn 1 p8 a2 fun b48=>
 LdK e8 b48 fun b49=>
 Qa prog 71 #[a,b49] e8 fun _x318 b50=>
 Ql prog .sub 3 a2 (.int .i64 1) fun b51=>
 Yb q2 q3 [b51] b50)
 (i9 [a2] e8)) fun i9=>∀b52:Value,∀q4:Qf,i9 [b52] q4->
 Qa prog 88 #[a,g] q4 fun b53 b54=>
 e7 [b53] b54)
 (e7 [(.int .u32 0)] a0)) fun e7=>∀q5:Value,∀a3:Qf,e7 [q5] a3->
 QO (fun e9=>
 Qs b fun b55=>
 Qg b55 27 fun b56=>
 LdK a3 b56 fun b57=>
 Ql prog .neq 148 b57 (.slice none 0 0) fun b58=>
 IfK b58
 (Qs b fun b59=>
 Qg b59 27 fun b60=>
 LdK a3 b60 fun b61=>
 Y8 b61 fun j0=>
 Qa prog 95 #[a,j0] a3 fun _x334 b62=>
 QO (fun j1=>
 Ql prog .sub 3 j0 (.int .i64 1) fun b63=>
 Y6 [b63] b62 fun q6 q7=>∀a4:Value,∀a5:Qf,q6 q7 [a4] a5->
 Ql prog .geq 3 a4 (.int .i64 0) fun b64=>
 IfK b64
 (Qs b fun b65=>
 Qg b65 27 fun b66=>
 LdK a5 b66 fun b67=>
 Yn 1 b67 a4 fun b68=>
 LdK a5 b68 fun b69=>
 Qa prog 96 #[b69,a] a5 fun _x349 b70=>
 Ql prog .sub 3 a4 (.int .i64 1) fun b71=>
 Yb q6 q7 [b71] b70)
 (j1 [a4] a5)) fun j1=>∀b72:Value,∀q8:Qf,j1 [b72] q8->
 Qa prog 88 #[a,j0] q8 fun b73 b74=>
 e9 [b73] b74)
 (e9 [(.int .u32 0)] a3)) fun e9=>∀q9:Value,∀a6:Qf,e9 [q9] a6->
 QO (fun f0=>
 Qs b fun b75=>
 Qg b75 28 fun b76=>
 LdK a6 b76 fun b77=>
 Ql prog .neq 72 b77 (.slice none 0 0) fun b78=>
 IfK b78
 (Qs b fun b79=>
 Qg b79 28 fun b80=>
 LdK a6 b80 fun b81=>
 Qa prog 84 #[a,b81] a6 fun b82 b83=>
 f0 [b82] b83)
 (f0 [(.int .u32 0)] a6)) fun f0=>∀r0:Value,∀a7:Qf,f0 [r0] a7->
 QO (fun f1=>
 Qs b fun b84=>
 Qg b84 29 fun b85=>
 LdK a7 b85 fun b86=>
 Ql prog .neq 137 b86 (.slice none 0 0) fun b87=>
 IfK b87
 (Qs b fun b88=>
 Qg b88 29 fun b89=>
 LdK a7 b89 fun b90=>
 Y8 b90 fun j2=>
 Qa prog 97 #[a,j2] a7 fun _x376 b91=>
 QO (fun j3=>
 Ql prog .sub 3 j2 (.int .i64 1) fun b92=>
 Y6 [b92] b91 fun r1 r2=>∀a8:Value,∀a9:Qf,r1 r2 [a8] a9->
 Ql prog .geq 3 a8 (.int .i64 0) fun b93=>
 IfK b93
 (Qs b fun b94=>
 Qg b94 29 fun b95=>
 LdK a9 b95 fun b96=>
 Yn 1 b96 a8 fun b97=>
 LdK a9 b97 fun b98=>
 Qa prog 87 #[b98,a] a9 fun _x391 b99=>
 Ql prog .sub 3 a8 (.int .i64 1) fun c00=>
 Yb r1 r2 [c00] b99)
 (j3 [a8] a9)) fun j3=>∀c01:Value,∀r3:Qf,j3 [c01] r3->
 Qa prog 88 #[a,j2] r3 fun c02 c03=>
 f1 [c02] c03)
 (f1 [(.int .u32 0)] a7)) fun f1=>∀r4:Value,∀b0:Qf,f1 [r4] b0->
 QO (fun f2=>
 Qs b fun c04=>
 Qg c04 30 fun c05=>
 LdK b0 c05 fun c06=>
 Ql prog .neq 34 c06 (.slice none 0 0) fun c07=>
 IfK c07
 (Qs b fun c08=>
 Qg c08 30 fun c09=>
 LdK b0 c09 fun c10=>
 Y8 c10 fun j4=>
 Qa prog 98 #[a,j4] b0 fun _x407 c11=>
 QO (fun j5=>
 Ql prog .sub 3 j4 (.int .i64 1) fun c12=>
 Y6 [c12] c11 fun r5 r6=>∀b1:Value,∀b2:Qf,r5 r6 [b1] b2->
 Ql prog .geq 3 b1 (.int .i64 0) fun c13=>
 IfK c13
 (Qs b fun c14=>
 Qg c14 30 fun c15=>
 LdK b2 c15 fun c16=>
 Yn 1 c16 b1 fun c17=>
 LdK b2 c17 fun c18=>
 Qa prog 99 #[a,c18] b2 fun _x422 c19=>
 Ql prog .sub 3 b1 (.int .i64 1) fun c20=>
 Yb r5 r6 [c20] c19)
 (j5 [b1] b2)) fun j5=>∀c21:Value,∀r7:Qf,j5 [c21] r7->
 Qa prog 88 #[a,j4] r7 fun c22 c23=>
 f2 [c22] c23)
 (f2 [(.int .u32 0)] b0)) fun f2=>∀r8:Value,∀b3:Qf,f2 [r8] b3->
 QO (fun f3=>
 Qs b fun c24=>
 Qg c24 31 fun c25=>
 LdK b3 c25 fun c26=>
 Ql prog .neq 149 c26 (.slice none 0 0) fun c27=>
 IfK c27
 (Qs b fun c28=>
 Qg c28 31 fun c29=>
 LdK b3 c29 fun c30=>
 Y8 c30 fun j6=>
 Qa prog 100 #[a,j6] b3 fun _x438 c31=>
 QO (fun j7=>
 Ql prog .sub 3 j6 (.int .i64 1) fun c32=>
 Y6 [c32] c31 fun r9 s0=>∀b4:Value,∀b5:Qf,r9 s0 [b4] b5->
 Ql prog .geq 3 b4 (.int .i64 0) fun c33=>
 IfK c33
 (Qs b fun c34=>
 Qg c34 31 fun c35=>
 LdK b5 c35 fun c36=>
 Yn 1 c36 b4 fun c37=>
 LdK b5 c37 fun c38=>
 Qa prog 101 #[a,c38] b5 fun _x453 c39=>
 Ql prog .sub 3 b4 (.int .i64 1) fun c40=>
 Yb r9 s0 [c40] c39)
 (j7 [b4] b5)) fun j7=>∀c41:Value,∀s1:Qf,j7 [c41] s1->
 Qa prog 88 #[a,j6] s1 fun c42 c43=>
 f3 [c42] c43)
 (f3 [(.int .u32 0)] b3)) fun f3=>∀s2:Value,∀j8:Qf,f3 [s2] j8->
 Qs b fun c44=>
 Qg c44 32 fun c45=>
 LdK j8 c45 fun c46=>
 Qa prog 102 #[c46,a] j8 fun c47 f4=>
 QO (fun f5=>
 Qs b fun c48=>
 Qg c48 33 fun c49=>
 LdK f4 c49 fun c50=>
 Ql prog .neq 141 c50 (.slice none 0 0) fun c51=>
 IfK c51
 (Qs b fun c52=>
 Qg c52 33 fun c53=>
 LdK f4 c53 fun c54=>
 Y8 c54 fun j=>
 Qf5 f4 68 4 z68 j j fun s3 c55=>
 QO (fun j9=>
 Y6 [(.int .i64 0)] c55 fun s4 s5=>∀l:Value,∀b6:Qf,s4 s5 [l] b6->
 Ql prog .lss 3 l j fun c56=>
 IfK c56
 (Qs b fun c57=>
 Qg c57 33 fun c58=>
 LdK b6 c58 fun c59=>
 Yn 1 c59 l fun c60=>
 LdK b6 c60 fun c61=>
 Qa prog 103 #[c61,a] b6 fun c62 c63=>
 Yn 1 s3 l fun c64=>
 StK c63 1 c64 c62 fun c65=>
 Ql prog .add 3 l (.int .i64 1) fun c66=>
 Yb s4 s5 [c66] c65)
 (j9 [l] b6)) fun j9=>∀c67:Value,∀s6:Qf,j9 [c67] s6->
 Qa prog 104 #[a,j] s6 fun _x494 c68=>
 QO (fun l0=>
 Ql prog .sub 3 j (.int .i64 1) fun c69=>
 Y6 [c69] c68 fun s7 s8=>∀b7:Value,∀f6:Qf,s7 s8 [b7] f6->
 Ql prog .geq 3 b7 (.int .i64 0) fun c70=>
 IfK c70
 (Yn 1 s3 b7 fun c71=>
 LdK f6 c71 fun c72=>
 Qa prog 71 #[a,c72] f6 fun _x506 c73=>
 Ql prog .sub 3 b7 (.int .i64 1) fun c74=>
 Yb s7 s8 [c74] c73)
 (l0 [b7] f6)) fun l0=>∀c75:Value,∀s9:Qf,l0 [c75] s9->
 Qa prog 88 #[a,j] s9 fun c76 c77=>
 f5 [c76] c77)
 (f5 [(.int .u32 0)] f4)) fun f5=>∀t0:Value,∀b8:Qf,f5 [t0] b8->
 QO (fun f7=>
 Qs b fun c78=>
 Qg c78 35 fun c79=>
 LdK b8 c79 fun c80=>
 Ql prog .neq 35 c80 (.slice none 0 0) fun c81=>
 IfK c81
 (Qs b fun c82=>
 Qg c82 35 fun c83=>
 LdK b8 c83 fun c84=>
 Y8 c84 fun l1=>
 Qa prog 105 #[a,l1] b8 fun _x522 c85=>
 QO (fun l2=>
 Ql prog .sub 3 l1 (.int .i64 1) fun c86=>
 Y6 [c86] c85 fun t1 t2=>∀b9:Value,∀c0:Qf,t1 t2 [b9] c0->
 Ql prog .geq 3 b9 (.int .i64 0) fun c87=>
 IfK c87
 (Qs b fun c88=>
 Qg c88 35 fun c89=>
 LdK c0 c89 fun c90=>
 Yn 1 c90 b9 fun c91=>
 LdK c0 c91 fun c92=>
 Qa prog 106 #[a,c92] c0 fun _x537 c93=>
 Ql prog .sub 3 b9 (.int .i64 1) fun c94=>
 Yb t1 t2 [c94] c93)
 (l2 [b9] c0)) fun l2=>∀c95:Value,∀t3:Qf,l2 [c95] t3->
 Qa prog 88 #[a,l1] t3 fun c96 c97=>
 f7 [c96] c97)
 (f7 [(.int .u32 0)] b8)) fun f7=>∀t4:Value,∀c1:Qf,f7 [t4] c1->
 QO (fun f8=>
 Qs b fun c98=>
 Qg c98 36 fun c99=>
 LdK c1 c99 fun d00=>
 Ql prog .neq 141 d00 (.slice none 0 0) fun d01=>
 IfK d01
 (Qs b fun d02=>
 Qg d02 36 fun d03=>
 LdK c1 d03 fun d04=>
 Y8 d04 fun m=>
 Qf5 c1 68 4 z68 m m fun t5 d05=>
 QO (fun l3=>
 Y6 [(.int .i64 0)] d05 fun t6 t7=>∀o:Value,∀c2:Qf,t6 t7 [o] c2->
 Ql prog .lss 3 o m fun d06=>
 IfK d06
 (Qs b fun d07=>
 Qg d07 36 fun d08=>
 LdK c2 d08 fun d09=>
 Yn 1 d09 o fun d10=>
 LdK c2 d10 fun d11=>
 Qa prog 103 #[d11,a] c2 fun d12 d13=>
 Yn 1 t5 o fun d14=>
 StK d13 1 d14 d12 fun d15=>
 Ql prog .add 3 o (.int .i64 1) fun d16=>
 Yb t6 t7 [d16] d15)
 (l3 [o] c2)) fun l3=>∀d17:Value,∀t8:Qf,l3 [d17] t8->
 Qa prog 107 #[a,m] t8 fun _x572 d18=>
 QO (fun l4=>
 Ql prog .sub 3 m (.int .i64 1) fun d19=>
 Y6 [d19] d18 fun t9 u0=>∀c3:Value,∀f9:Qf,t9 u0 [c3] f9->
 Ql prog .geq 3 c3 (.int .i64 0) fun d20=>
 IfK d20
 (Yn 1 t5 c3 fun d21=>
 LdK f9 d21 fun d22=>
 Qa prog 71 #[a,d22] f9 fun _x584 d23=>
 Ql prog .sub 3 c3 (.int .i64 1) fun d24=>
 Yb t9 u0 [d24] d23)
 (l4 [c3] f9)) fun l4=>∀d25:Value,∀u1:Qf,l4 [d25] u1->
 Qa prog 88 #[a,m] u1 fun d26 d27=>
 f8 [d26] d27)
 (f8 [(.int .u32 0)] c1)) fun f8=>∀u2:Value,∀c4:Qf,f8 [u2] c4->
 QO (fun g0=>
 Qs b fun d28=>
 Qg d28 38 fun d29=>
 LdK c4 d29 fun d30=>
 Ql prog .neq 35 d30 (.slice none 0 0) fun d31=>
 IfK d31
 (Qs b fun d32=>
 Qg d32 38 fun d33=>
 LdK c4 d33 fun d34=>
 Y8 d34 fun l5=>
 Qa prog 108 #[a,l5] c4 fun _x600 d35=>
 QO (fun l6=>
 Ql prog .sub 3 l5 (.int .i64 1) fun d36=>
 Y6 [d36] d35 fun u3 u4=>∀c5:Value,∀c6:Qf,u3 u4 [c5] c6->
 Ql prog .geq 3 c5 (.int .i64 0) fun d37=>
 IfK d37
 (Qs b fun d38=>
 Qg d38 38 fun d39=>
 LdK c6 d39 fun d40=>
 Yn 1 d40 c5 fun d41=>
 LdK c6 d41 fun d42=>
 Qa prog 106 #[a,d42] c6 fun _x615 d43=>
 Ql prog .sub 3 c5 (.int .i64 1) fun d44=>
 Yb u3 u4 [d44] d43)
 (l6 [c5] c6)) fun l6=>∀d45:Value,∀u5:Qf,l6 [d45] u5->
 Qa prog 88 #[a,l5] u5 fun d46 d47=>
 g0 [d46] d47)
 (g0 [(.int .u32 0)] c4)) fun g0=>∀u6:Value,∀c7:Qf,g0 [u6] c7->
 QO (fun g1=>
 Qs b fun d48=>
 Qg d48 40 fun d49=>
 LdK c7 d49 fun d50=>
 Ql prog .neq 35 d50 (.slice none 0 0) fun d51=>
 IfK d51
 (Qs b fun d52=>
 Qg d52 40 fun d53=>
 LdK c7 d53 fun d54=>
 Y8 d54 fun l7=>
 Qa prog 109 #[a,l7] c7 fun _x631 d55=>
 QO (fun l8=>
 Ql prog .sub 3 l7 (.int .i64 1) fun d56=>
 Y6 [d56] d55 fun u7 u8=>∀c8:Value,∀c9:Qf,u7 u8 [c8] c9->
 Ql prog .geq 3 c8 (.int .i64 0) fun d57=>
 IfK d57
 (Qs b fun d58=>
 Qg d58 40 fun d59=>
 LdK c9 d59 fun d60=>
 Yn 1 d60 c8 fun d61=>
 LdK c9 d61 fun d62=>
 Qa prog 106 #[a,d62] c9 fun _x646 d63=>
 Ql prog .sub 3 c8 (.int .i64 1) fun d64=>
 Yb u7 u8 [d64] d63)
 (l8 [c8] c9)) fun l8=>∀d65:Value,∀u9:Qf,l8 [d65] u9->
 Qa prog 88 #[a,l7] u9 fun d66 d67=>
 g1 [d66] d67)
 (g1 [(.int .u32 0)] c7)) fun g1=>∀v0:Value,∀l9:Qf,g1 [v0] l9->
 Qs b fun d68=>
 Qg d68 41 fun d69=>
 LdK l9 d69 fun d70=>
 Qa prog 110 #[d70,a] l9 fun d71 v1=>
 Qs b fun d72=>
 Qg d72 42 fun d73=>
 LdK v1 d73 fun d74=>
 Qa prog 111 #[d74,a] v1 fun d75 g2=>
 QO (fun g3=>
 Qs b fun d76=>
 Qg d76 43 fun d77=>
 LdK g2 d77 fun d78=>
 Ql prog .neq 153 d78 (.slice none 0 0) fun d79=>
 IfK d79
 (Qs b fun d80=>
 Qg d80 43 fun d81=>
 LdK g2 d81 fun d82=>
 Y8 d82 fun m0=>
 Qa prog 112 #[a,m0] g2 fun _x674 d83=>
 QO (fun m1=>
 Ql prog .sub 3 m0 (.int .i64 1) fun d84=>
 Y6 [d84] d83 fun v2 v3=>∀d0:Value,∀d1:Qf,v2 v3 [d0] d1->
 Ql prog .geq 3 d0 (.int .i64 0) fun d85=>
 IfK d85
 (Qs b fun d86=>
 Qg d86 43 fun d87=>
 LdK d1 d87 fun d88=>
 Yn 1 d88 d0 fun d89=>
 LdK d1 d89 fun d90=>
 Qa prog 113 #[a,d90] d1 fun _x689 d91=>
 Ql prog .sub 3 d0 (.int .i64 1) fun d92=>
 Yb v2 v3 [d92] d91)
 (m1 [d0] d1)) fun m1=>∀d93:Value,∀v4:Qf,m1 [d93] v4->
 Qa prog 88 #[a,m0] v4 fun d94 d95=>
 g3 [d94] d95)
 (g3 [(.int .u32 0)] g2)) fun g3=>∀v5:Value,∀v6:Qf,g3 [v5] v6->
 Qa prog 114 #[a] v6 fun _x694 v7=>
 Qs b fun d96=>
 Qg d96 0 fun d97=>
 LdK v7 d97 fun d98=>
 Qa prog 115 #[d98,a] v7 fun d99 e00=>
 Qa prog 116 #[a,d99] e00 fun _x703 v8=>
 Qs b fun e01=>
 Qg e01 1 fun e02=>
 LdK v8 e02 fun e03=>
 Qa prog 117 #[a,e03] v8 fun _x709 v9=>
 Qs b fun e04=>
 Qg e04 2 fun e05=>
 LdK v9 e05 fun e06=>
 Qa prog 118 #[a,e06] v9 fun _x715 e07=>
 Qa prog 119 #[a,z4] e07 fun _x718 e08=>
 Qa prog 120 #[a,m2] e08 fun _x721 w0=>
 Qs b fun e09=>
 Qg e09 5 fun e10=>
 LdK w0 e10 fun e11=>
 Qa prog 121 #[a,e11] w0 fun _x727 d2=>
 QO (fun g4=>
 Qs b fun e12=>
 Qg e12 6 fun e13=>
 LdK d2 e13 fun e14=>
 Ql prog .neq 145 e14 (.pointer none) fun e15=>
 IfK e15
 (Qs b fun e16=>
 Qg e16 6 fun e17=>
 LdK d2 e17 fun e18=>
 Qs e18 fun e19=>
 Qg e19 0 fun e20=>
 LdK d2 e20 fun e21=>
 Qa prog 122 #[a,e21] d2 fun _x741 e22=>
 g4 [] e22)
 (g4 [] d2)) fun g4=>∀w1:Qf,g4 [] w1->
 Qa prog 123 #[a,a07] w1 fun _x744 e23=>
 Qa prog 124 #[a,m6] e23 fun _x747 e24=>
 Qa prog 125 #[a,o4] e24 fun _x750 e25=>
 Qa prog 126 #[a,p2] e25 fun _x753 e26=>
 Qa prog 127 #[a,a91] e26 fun _x756 e27=>
 Qa prog 128 #[a,p3] e27 fun _x759 e28=>
 Qa prog 129 #[a,b04] e28 fun _x762 w2=>
 Qs b fun e29=>
 Qg e29 13 fun e30=>
 LdK w2 e30 fun e31=>
 Qa prog 130 #[a,e31] w2 fun _x768 w3=>
 Qs b fun e32=>
 Qg e32 14 fun e33=>
 LdK w3 e33 fun e34=>
 Qa prog 131 #[a,e34] w3 fun _x774 w4=>
 Qs b fun e35=>
 Qg e35 15 fun e36=>
 LdK w4 e36 fun e37=>
 Qa prog 132 #[a,e37] w4 fun _x780 w5=>
 Qs b fun e38=>
 Qg e38 16 fun e39=>
 LdK w5 e39 fun e40=>
 Qa prog 133 #[a,e40] w5 fun _x786 w6=>
 Qs b fun e41=>
 Qg e41 17 fun e42=>
 LdK w6 e42 fun e43=>
 Qa prog 134 #[a,e43] w6 fun _x792 w7=>
 Qs b fun e44=>
 Qg e44 18 fun e45=>
 LdK w7 e45 fun e46=>
 Qa prog 135 #[a,e46] w7 fun _x798 w8=>
 Qs b fun e47=>
 Qg e47 19 fun e48=>
 LdK w8 e48 fun e49=>
 Qa prog 136 #[a,e49] w8 fun _x804 w9=>
 Qs b fun e50=>
 Qg e50 20 fun e51=>
 LdK w9 e51 fun e52=>
 Qa prog 137 #[a,e52] w9 fun _x810 y0=>
 Qs b fun e53=>
 Qg e53 21 fun e54=>
 LdK y0 e54 fun e55=>
 Qa prog 138 #[a,e55] y0 fun _x816 e56=>
 Qa prog 139 #[a,p7] e56 fun _x819 y1=>
 Qs b fun e57=>
 Qg e57 23 fun e58=>
 LdK y1 e58 fun e59=>
 Qa prog 140 #[a,e59] y1 fun _x825 y2=>
 Qs b fun e60=>
 Qg e60 24 fun e61=>
 LdK y2 e61 fun e62=>
 Qa prog 141 #[a,e62] y2 fun _x831 y3=>
 Qs b fun e63=>
 Qg e63 25 fun e64=>
 LdK y3 e64 fun e65=>
 Qa prog 142 #[a,e65] y3 fun _x837 e66=>
 Qa prog 143 #[a,q5] e66 fun _x840 e67=>
 Qa prog 144 #[a,q9] e67 fun _x843 e68=>
 Qa prog 145 #[a,r0] e68 fun _x846 e69=>
 Qa prog 146 #[a,r4] e69 fun _x849 e70=>
 Qa prog 147 #[a,r8] e70 fun _x852 e71=>
 Qa prog 148 #[a,s2] e71 fun _x855 e72=>
 Qa prog 149 #[a,c47] e72 fun _x858 e73=>
 Qa prog 150 #[a,t0] e73 fun _x861 y4=>
 Qs b fun e74=>
 Qg e74 34 fun e75=>
 LdK y4 e75 fun e76=>
 Qa prog 151 #[a,e76] y4 fun _x867 e77=>
 Qa prog 152 #[a,t4] e77 fun _x870 e78=>
 Qa prog 153 #[a,u2] e78 fun _x873 y5=>
 Qs b fun e79=>
 Qg e79 37 fun e80=>
 LdK y5 e80 fun e81=>
 Qa prog 154 #[a,e81] y5 fun _x879 e82=>
 Qa prog 155 #[a,u6] e82 fun _x882 y6=>
 Qs b fun e83=>
 Qg e83 39 fun e84=>
 LdK y6 e84 fun e85=>
 Qa prog 156 #[a,e85] y6 fun _x888 e86=>
 Qa prog 157 #[a,v0] e86 fun _x891 d3=>
 QO (fun g5=>
 Qs b fun e87=>
 Qg e87 41 fun e88=>
 LdK d3 e88 fun e89=>
 Ql prog .neq 151 e89 (.pointer none) fun e90=>
 IfK e90
 (Qs b fun e91=>
 Qg e91 41 fun e92=>
 LdK d3 e92 fun e93=>
 Qs e93 fun e94=>
 Qg e94 0 fun e95=>
 LdK d3 e95 fun e96=>
 Qa prog 158 #[a,e96] d3 fun _x905 e97=>
 g5 [] e97)
 (g5 [] d3)) fun g5=>∀y7:Qf,g5 [] y7->
 Qa prog 159 #[a,d71] y7 fun _x908 d4=>
 QO (fun g6=>
 Qs b fun e98=>
 Qg e98 42 fun e99=>
 LdK d4 e99 fun f00=>
 Ql prog .neq 152 f00 (.pointer none) fun f01=>
 IfK f01
 (Qs b fun f02=>
 Qg f02 42 fun f03=>
 LdK d4 f03 fun f04=>
 Qs f04 fun f05=>
 Qg f05 0 fun f06=>
 LdK d4 f06 fun f07=>
 Qa prog 160 #[a,f07] d4 fun _x922 f08=>
 g6 [] f08)
 (g6 [] d4)) fun g6=>∀y8:Qf,g6 [] y8->
 Qa prog 161 #[a,d75] y8 fun _x925 f09=>
 Qa prog 162 #[a,v5] f09 fun _x928 y9=>
 Qs b fun f10=>
 Qg f10 44 fun f11=>
 LdK y9 f11 fun f12=>
 Qa prog 163 #[a,f12] y9 fun _x934 f13=>
 Qa prog 164 #[a] f13 fun f14 f15=>
 R f14 f15)
theorem w21 {a b h R} (H:s21 a b h R):FnS prog 21 #[a,b] h R:=wq Tryz.func21 (by kernel_rfl) H
def s85 (a b:Value) (h:Qf) (R:Kn):Prop:=
 Ql prog .eql 145 a (.pointer none) fun d=>
 IfK d
 (R (.int .u32 0) h)
 (Qs a fun e=>
 Qg e 0 fun f=>
 LdK h f fun c=>
 Ql prog .eql 167 c (.int .u8 1) fun g=>
 IfK g
 (Qs a fun i=>
 Qg i 1 fun j=>
 LdK h j fun l=>
 Qia 69 false (.pointer none) l fun m=>
 Qa prog 21 #[m,b] h fun o p=>
 R o p)
 (Ql prog .eql 167 c (.int .u8 2) fun q=>
 IfK q
 (Qs a fun r=>
 Qg r 1 fun s=>
 LdK h s fun t=>
 Qia 258 false (.pointer none) t fun u=>
 Qa prog 258 #[u,b] h fun v w=>
 R v w)
 (Ql prog .eql 167 c (.int .u8 3) fun y=>
 IfK y
 (Qs a fun z=>
 Qg z 1 fun a0=>
 LdK h a0 fun a1=>
 Qia 261 false (.pointer none) a1 fun a2=>
 Qa prog 259 #[a2,b] h fun a3 a4=>
 R a3 a4)
 (R (.int .u32 0) h))))
theorem w85 {a b h R} (H:s85 a b h R):FnS prog 85 #[a,b] h R:=wq Tryz.func85 (by kernel_rfl) H
def s87 (a b:Value) (h:Qf) (R:Kn):Prop:=
 Ql prog .eql 158 a (.pointer none) fun c=>
 IfK c
 (R (.int .u32 0) h)
 (Qs a fun d=>
 Qg d 0 fun e=>
 LdK h e fun f=>
 Qs a fun g=>
 Qg g 1 fun i=>
 LdK h i fun j=>
 Qa prog 261 #[b,f,j] h fun l m=>
 R l m)
theorem w87 {a b h R} (H:s87 a b h R):FnS prog 87 #[a,b] h R:=wq Tryz.func87 (by kernel_rfl) H
def s91 (b a:Value) (h:Qf) (R:Kn):Prop:=
 Ql prog .eql 147 b (.pointer none) fun e=>
 IfK e
 (R (.int .u32 0) h)
 (Qs b fun f=>
 Qg f 0 fun g=>
 LdK h g fun i=>
 Qa prog 83 #[a,i] h fun j l=>
 Qa prog 263 #[a] l fun _x15 m=>
 Qa prog 264 #[a,j] m fun _x18 c=>
 Qs b fun o=>
 Qg o 1 fun p=>
 LdK c p fun q=>
 Qa prog 265 #[a,q] c fun _x24 d=>
 Qs b fun r=>
 Qg r 2 fun s=>
 LdK d s fun t=>
 Qa prog 266 #[a,t] d fun _x30 u=>
 Qa prog 267 #[a] u fun v w=>
 R v w)
theorem w91 {a b h R} (H:s91 a b h R):FnS prog 91 #[a,b] h R:=wq Tryz.func91 (by kernel_rfl) H
def s96 (a b:Value) (h:Qf) (R:Kn):Prop:=
 Ql prog .eql 163 a (.pointer none) fun c=>
 IfK c
 (R (.int .u32 0) h)
 (Qs a fun d=>
 Qg d 0 fun e=>
 LdK h e fun f=>
 Qs a fun g=>
 Qg g 1 fun i=>
 LdK h i fun j=>
 Qa prog 269 #[b,f,j] h fun l m=>
 R l m)
theorem w96 {a b h R} (H:s96 a b h R):FnS prog 96 #[a,b] h R:=wq Tryz.func96 (by kernel_rfl) H
def s102 (b a:Value) (h:Qf) (R:Kn):Prop:=
 Ql prog .eql 150 b (.pointer none) fun c=>
 IfK c
 (R (.int .u32 0) h)
 (Qa prog 272 #[a] h fun _x8 d=>
 Qa prog 273 #[a] d fun e f=>
 R e f)
theorem w102 {a b h R} (H:s102 a b h R):FnS prog 102 #[a,b] h R:=wq Tryz.func102 (by kernel_rfl) H
def s103 (b a:Value) (h:Qf) (R:Kn):Prop:=
 Ql prog .eql 185 b (.pointer none) fun d=>
 IfK d
 (R (.int .u32 0) h)
 (Qa prog 274 #[a] h fun _x8 c=>
 Qs b fun e=>
 Qg e 0 fun f=>
 LdK c f fun g=>
 Qa prog 275 #[a,g] c fun _x14 i=>
 Qa prog 276 #[a] i fun j l=>
 R j l)
theorem w103 {a b h R} (H:s103 a b h R):FnS prog 103 #[a,b] h R:=wq Tryz.func103 (by kernel_rfl) H
def s110 (a b:Value) (h:Qf) (R:Kn):Prop:=
 Ql prog .eql 151 a (.pointer none) fun d=>
 IfK d
 (R (.int .u32 0) h)
 (Qs a fun e=>
 Qg e 0 fun f=>
 LdK h f fun c=>
 Ql prog .eql 171 c (.int .u8 1) fun g=>
 IfK g
 (Qs a fun i=>
 Qg i 1 fun j=>
 LdK h j fun l=>
 Qia 69 false (.pointer none) l fun m=>
 Qa prog 21 #[m,b] h fun o p=>
 R o p)
 (Ql prog .eql 171 c (.int .u8 2) fun q=>
 IfK q
 (Qs a fun r=>
 Qg r 1 fun s=>
 LdK h s fun t=>
 Qia 258 false (.pointer none) t fun u=>
 Qa prog 258 #[u,b] h fun v w=>
 R v w)
 (Ql prog .eql 171 c (.int .u8 3) fun y=>
 IfK y
 (Qs a fun z=>
 Qg z 1 fun a0=>
 LdK h a0 fun a1=>
 Qia 261 false (.pointer none) a1 fun a2=>
 Qa prog 259 #[a2,b] h fun a3 a4=>
 R a3 a4)
 (R (.int .u32 0) h))))
theorem w110 {a b h R} (H:s110 a b h R):FnS prog 110 #[a,b] h R:=wq Tryz.func110 (by kernel_rfl) H
def s111 (a b:Value) (h:Qf) (R:Kn):Prop:=
 Ql prog .eql 152 a (.pointer none) fun d=>
 IfK d
 (R (.int .u32 0) h)
 (Qs a fun e=>
 Qg e 0 fun f=>
 LdK h f fun c=>
 Ql prog .eql 174 c (.int .u8 1) fun g=>
 IfK g
 (Qs a fun i=>
 Qg i 1 fun j=>
 LdK h j fun l=>
 Qia 69 false (.pointer none) l fun m=>
 Qa prog 21 #[m,b] h fun o p=>
 R o p)
 (Ql prog .eql 174 c (.int .u8 2) fun q=>
 IfK q
 (Qs a fun r=>
 Qg r 1 fun s=>
 LdK h s fun t=>
 Qia 69 false (.pointer none) t fun u=>
 Qa prog 21 #[u,b] h fun v w=>
 R v w)
 (Ql prog .eql 174 c (.int .u8 3) fun y=>
 IfK y
 (Qs a fun z=>
 Qg z 1 fun a0=>
 LdK h a0 fun a1=>
 Qia 69 false (.pointer none) a1 fun a2=>
 Qa prog 21 #[a2,b] h fun a3 a4=>
 R a3 a4)
 (R (.int .u32 0) h))))
theorem w111 {a b h R} (H:s111 a b h R):FnS prog 111 #[a,b] h R:=wq Tryz.func111 (by kernel_rfl) H
def s115 (a b:Value) (h:Qf) (R:Kn):Prop:=
 Ql prog .eql 144 a (.pointer none) fun c=>
 IfK c
 (R (.int .u32 0) h)
 (Qs a fun d=>
 Qg d 0 fun e=>
 LdK h e fun f=>
 Qs a fun g=>
 Qg g 1 fun i=>
 LdK h i fun j=>
 Qs a fun l=>
 Qg l 2 fun m=>
 LdK h m fun o=>
 Qs a fun p=>
 Qg p 3 fun q=>
 LdK h q fun r=>
 Qs a fun s=>
 Qg s 4 fun t=>
 LdK h t fun u=>
 Qs a fun v=>
 Qg v 5 fun w=>
 LdK h w fun y=>
 Qs y fun z=>
 Qg z 0 fun a0=>
 LdK h a0 fun a1=>
 Qs a fun a2=>
 Qg a2 5 fun a3=>
 LdK h a3 fun a4=>
 Qs a4 fun a5=>
 Qg a5 1 fun a6=>
 LdK h a6 fun a7=>
 Qa prog 279 #[b,f,j,o,r,u,a1,a7] h fun a8 a9=>
 R a8 a9)
theorem w115 {a b h R} (H:s115 a b h R):FnS prog 115 #[a,b] h R:=wq Tryz.func115 (by kernel_rfl) H
def s258 (b a:Value) (h:Qf) (R:Kn):Prop:=
 Ql prog .eql 258 b (.pointer none) fun d=>
 IfK d
 (R (.int .u32 0) h)
 (Qa prog 321 #[a] h fun _x8 c=>
 Qs b fun e=>
 Qg e 0 fun f=>
 LdK c f fun g=>
 Qa prog 322 #[a,g] c fun _x14 i=>
 Qa prog 323 #[a] i fun j l=>
 R j l)
theorem w258 {a b h R} (H:s258 a b h R):FnS prog 258 #[a,b] h R:=wq Tryz.func258 (by kernel_rfl) H
def s259 (b a:Value) (h:Qf) (R:Kn):Prop:=
 Ql prog .eql 261 b (.pointer none) fun c=>
 IfK c
 (R (.int .u32 0) h)
 (Qa prog 324 #[a] h fun _x8 d=>
 Qa prog 325 #[a] d fun e f=>
 R e f)
theorem w259 {a b h R} (H:s259 a b h R):FnS prog 259 #[a,b] h R:=wq Tryz.func259 (by kernel_rfl) H
end Go.Proofs
namespace Go.Proofs
open Go Go.Vc
open Tryz (prog)
theorem QeL (xs:List UInt8) (S:BS):(createStr xs S).buf=leB (xs.length:Int) 4++(xs++([0]++(List.replicate (padOf 4 (S.buf.length+(xs.length+1))) 0++S.buf))):=by
 simp[createStr,QhY,place,prep]
theorem Qh3 (xs:List UInt8) (S:BS):(createStr xs S).buf.length=4+xs.length+1+padOf 4 (S.buf.length+(xs.length+1))+S.buf.length:=by
 rw[QeL];simp[Qi];omega
theorem Inv.createStr {S:BS} (h:Inv S) (xs:List UInt8):Inv (Proofs.createStr xs S)/\(Proofs.createStr xs S).buf.length<=S.buf.length+xs.length+8/\S.buf.length+5<=(Proofs.createStr xs S).buf.length:=by
 have hp:=Zk (size:=4) (n:=S.buf.length+(xs.length+1)) (by decide)
 have hl:=Qh3 xs S
 refine ⟨⟨rfl,h.vts.ext (S':=Proofs.createStr xs S) rfl (x:=leB (xs.length:Int) 4++(xs++([0]++List.replicate (padOf 4 (S.buf.length+(xs.length+1))) 0))) (by rw[QeL];simp),?_,h.min.max P2_4⟩,by omega,by omega⟩
 have:=h.nv
 show S.vts.length<=_
 omega
def endT (S:BS):BS×Nat:=(endObj S,(putOff 0 S).buf.length)
structure Yw (S:BS) (c:Nat) (q:BS×Nat):Prop where
 inv:Inv q.1
 len:q.1.buf.length<=S.buf.length+c
 le:S.buf.length<=q.1.buf.length
 off:q.2<=q.1.buf.length
theorem Yw.endT {S0 S:BS} {n c:Nat} (h:YA S0 n c S) (h0:Inv S0) (hn:n<1000):Yw S0 (c+3*n+16) (Proofs.endT S)/\0<(Proofs.endT S).2:=by
 obtain ⟨h1,h2,h3,h4⟩:=Inv.endObj h h0 hn
 have h5:=h.len
 have h6:=h.le
 obtain ⟨y,hy,hy1,hy2⟩:=Qdp 0 S
 refine ⟨⟨h1,?_,?_,h4⟩,?_⟩
 ·show (endObj S).buf.length<=_;omega
 ·show _<=(endObj S).buf.length;omega
 ·show 0<(putOff 0 S).buf.length
  rw[hy,List.length_append];omega
def Qch (d:QaX) (S:BS):BS×Nat:=
 endT (slotN 2 d.count.toNat 0 2 (slotN 8 d.val.toNat 0 1 (slotOff (createStr d.id S).buf.length 0 (Qw 3 (createStr d.id S)))))
def QaW (x:UInt64) (S:BS):BS×Nat:=endT (slotN 8 x.toNat 0 0 (Qw 1 S))
def Qdm (S:BS):BS×Nat:=endT (Qw 0 S)
def QcK (c:UInt8) (S:BS):BS×Nat:=endT (slotN 1 c.toNat 2 0 (Qw 1 S))
theorem packStat_ok (d:QaX) {S:BS} (h:Inv S):Yw S (d.id.length+100) (Qch d S)/\0<(Qch d S).2:=by
 obtain ⟨h1,h2,h3⟩:=h.createStr d.id
 have:=Yw.endT (((YA.start (n:=3) h1.min).slotOff (off:=(createStr d.id S).buf.length) (o:=0)).slotN (x:=d.val.toNat) (d:=0) (o:=1) Qfj |>.slotN (x:=d.count.toNat) (d:=0) (o:=2) P2_2) h1 (by decide)
 refine ⟨⟨this.1.inv,?_,?_,this.1.off⟩,this.2⟩
 ·have:=this.1.len;show (Qch d S).1.buf.length<=_;unfold Qch;omega
 ·have:=this.1.le;show _<=(Qch d S).1.buf.length;unfold Qch;omega
theorem QeA (x:UInt64) {S:BS} (h:Inv S):Yw S 40 (QaW x S)/\0<(QaW x S).2:=by
 have:=Yw.endT ((YA.start (n:=1) h.min).slotN (x:=x.toNat) (d:=0) (o:=0) Qfj) h (by decide)
 exact ⟨⟨this.1.inv,by have:=this.1.len;unfold QaW;omega,this.1.le,this.1.off⟩,this.2⟩
theorem packParent_ok {S:BS} (h:Inv S):Yw S 40 (Qdm S)/\0<(Qdm S).2:=by
 have:=Yw.endT (YA.start (n:=0) h.min) h (by decide)
 exact ⟨⟨this.1.inv,by have:=this.1.len;unfold Qdm;omega,this.1.le,this.1.off⟩,this.2⟩
theorem packSimple_ok (c:UInt8) {S:BS} (h:Inv S):Yw S 40 (QcK c S)/\0<(QcK c S).2:=by
 have:=Yw.endT ((YA.start (n:=1) h.min).slotN (x:=c.toNat) (d:=2) (o:=0) P2_1) h (by decide)
 exact ⟨⟨this.1.inv,by have:=this.1.len;unfold QcK;omega,this.1.le,this.1.off⟩,this.2⟩
section
variable {H:Qf} {p:Nat} {S:BS} {F:Cut} {r:Nat} (hB:Qc H p S F r) {R:Kn}
include hB
theorem StatT_Pack {v:Value} {d:QaX} (hI:Inv S) (hv:ZS F v #[YK d.id,QdX d.val,u16V d.count]) (hl:S.buf.length+d.id.length+5000<=536870912)
  (hR:∀H',Qc H' p (Qch d S).1 F 0->R (.int .u32 ((Qch d S).2:Nat)) H'):
  FnS prog 91 #[v,.pointer (some ⟨p,0,none⟩)] H R:=by
 obtain ⟨h1,h2,h3⟩:=hI.createStr d.id
 apply w91
 unfold s91
 obtain ⟨q,e,rfl,hq⟩:=hv
 have hv:ZS F (.pointer (some ⟨q,0,none⟩)) #[YK d.id,QdX d.val,u16V d.count]:=⟨q,e,rfl,hq⟩
 rw[Y1 (by kernel_rfl)]
 show IfK (.bool false) _ _
 rw[Qbv]
 refine hv.ld hB.cut (i:=0) (YK d.id) rfl ?_
 refine Qcj hB (QfG _) hI.nested (by omega) ?_
 intro H1 g1
 refine QhF g1 h1.nested ?_
 intro H2 g2
 have i2:=YA.start (n:=3) h1.min
 refine Qhz g2 (Nat.le_refl _) (by rw[i2.vtl];decide) (by have:=i2.len;omega) ?_
 intro H3 g3
 have i3:=i2.slotOff (off:=(createStr d.id S).buf.length) (o:=0)
 refine hv.ld g3.cut (i:=1) (QdX d.val) rfl ?_
 refine Qh4 g3 d.val.toNat_lt (by rw[i3.vtl];decide) (by have:=i3.len;omega) ?_
 intro H4 g4
 have i4:=i3.slotN (k:=8) (x:=d.val.toNat) (d:=0) (o:=1) Qfj
 refine hv.ld g4.cut (i:=2) (u16V d.count) rfl ?_
 refine Qg9 g4 d.count.toNat_lt (by rw[i4.vtl];decide) (by have:=i4.len;omega) ?_
 intro H5 g5
 have i5:=i4.slotN (k:=2) (x:=d.count.toNat) (d:=0) (o:=2) P2_2
 refine Example_StatEnd g5 i5 (by decide) h1.vts (by omega) h1.nv ?_
 intro H6 g6
 exact hR H6 g6
theorem Qfd {v:Value} {x:UInt64} (hI:Inv S) (hv:ZS F v #[ZB x]) (hl:S.buf.length+5000<=536870912)
  (hR:∀H',Qc H' p (QaW x S).1 F 0->R (.int .u32 ((QaW x S).2:Nat)) H'):
  FnS prog 103 #[v,.pointer (some ⟨p,0,none⟩)] H R:=by
 apply w103
 unfold s103
 obtain ⟨q,e,rfl,hq⟩:=hv
 have hv:ZS F (.pointer (some ⟨q,0,none⟩)) #[ZB x]:=⟨q,e,rfl,hq⟩
 rw[Y1 (by kernel_rfl)]
 show IfK (.bool false) _ _
 rw[Qbv]
 refine QeU hB hI.nested ?_
 intro H2 g2
 have i2:=YA.start (n:=1) hI.min
 refine hv.ld g2.cut (i:=0) (ZB x) rfl ?_
 refine QeT g2 x.toNat_lt (by rw[i2.vtl];decide) (by have:=i2.len;omega) ?_
 intro H4 g4
 have i4:=i2.slotN (k:=8) (x:=x.toNat) (d:=0) (o:=0) Qfj
 refine Qfv g4 i4 (by decide) hI.vts (by omega) hI.nv ?_
 intro H6 g6
 exact hR H6 g6
theorem Qc6 {v:Value} (hI:Inv S) (hv:v= .pointer none\/∃a,v= .pointer (some a)) (hl:S.buf.length+5000<=536870912)
  (h0:v= .pointer none->R (.int .u32 0) H) (hR:v≠.pointer none->∀H',Qc H' p (Qdm S).1 F 0->R (.int .u32 ((Qdm S).2:Nat)) H'):
  FnS prog 102 #[v,.pointer (some ⟨p,0,none⟩)] H R:=by
 apply w102
 unfold s102
 rcases hv with rfl|⟨a,rfl⟩
 ·rw[Y1 (by kernel_rfl)]
  exact h0 rfl
 ·rw[Y1 (by kernel_rfl)]
  show IfK (.bool false) _ _
  rw[Qbv]
  refine Qd5 hB hI.nested ?_
  intro H2 g2
  have i2:=YA.start (n:=0) hI.min
  refine Qdu g2 i2 (by decide) hI.vts (by omega) hI.nv ?_
  intro H6 g6
  exact hR (by simp) H6 g6
theorem QhR {v:Value} {c:UInt8} (hI:Inv S) (hv:ZS F v #[.int .u8 (c.toNat:Int)]) (hl:S.buf.length+5000<=536870912)
  (hR:∀H',Qc H' p (QcK c S).1 F 0->R (.int .u32 ((QcK c S).2:Nat)) H'):
  FnS prog 258 #[v,.pointer (some ⟨p,0,none⟩)] H R:=by
 apply w258
 unfold s258
 obtain ⟨q,e,rfl,hq⟩:=hv
 have hv:ZS F (.pointer (some ⟨q,0,none⟩)) #[.int .u8 (c.toNat:Int)]:=⟨q,e,rfl,hq⟩
 rw[Y1 (by kernel_rfl)]
 show IfK (.bool false) _ _
 rw[Qbv]
 refine Qbl hB hI.nested ?_
 intro H2 g2
 have i2:=YA.start (n:=1) hI.min
 refine hv.ld g2.cut (i:=0) (.int .u8 (c.toNat:Int)) rfl ?_
 refine QaZ g2 c.toNat_lt (by rw[i2.vtl];decide) (by have:=i2.len;omega) ?_
 intro H4 g4
 have i4:=i2.slotN (k:=1) (x:=c.toNat) (d:=2) (o:=0) P2_1
 refine QbY g4 i4 (by decide) hI.vts (by omega) hI.nv ?_
 intro H6 g6
 exact hR H6 g6
theorem TestT_Pack {v:Value} {d:Qbo} (hv:ZS F v #[Qcx d.a,i8V d.b]) (hr:4<=r) (ha:S.buf.length%2=0) (hm:2<=S.min) (hl:S.buf.length+32<=536870912)
  (hR:∀H' w,Qc H' p (place (QaJ d.a.toNat d.b.toNat) S) F (r-4)->R w H'):
  FnS prog 87 #[v,.pointer (some ⟨p,0,none⟩)] H R:=by
 apply w87
 unfold s87
 obtain ⟨q,e,rfl,hq⟩:=hv
 have hv:ZS F (.pointer (some ⟨q,0,none⟩)) #[Qcx d.a,i8V d.b]:=⟨q,e,rfl,hq⟩
 rw[Y1 (by kernel_rfl)]
 show IfK (.bool false) _ _
 rw[Qbv]
 refine hv.ld hB.cut (i:=0) (Qcx d.a) rfl ?_
 refine hv.ld hB.cut (i:=1) (i8V d.b) rfl ?_
 refine QgY hB hr ha hm hl ?_
 exact hR
theorem AbilityT_Pack {v:Value} {d:Qeu} (hv:ZS F v #[ZK d.id,ZK d.dist]) (hr:8<=r) (ha:S.buf.length%4=0) (hm:4<=S.min) (hl:S.buf.length+32<=536870912)
  (hR:∀H' w,Qc H' p (place (Zv d.id.toNat d.dist.toNat) S) F (r-8)->R w H'):
  FnS prog 96 #[v,.pointer (some ⟨p,0,none⟩)] H R:=by
 apply w96
 unfold s96
 obtain ⟨q,e,rfl,hq⟩:=hv
 have hv:ZS F (.pointer (some ⟨q,0,none⟩)) #[ZK d.id,ZK d.dist]:=⟨q,e,rfl,hq⟩
 rw[Y1 (by kernel_rfl)]
 show IfK (.bool false) _ _
 rw[Qbv]
 refine hv.ld hB.cut (i:=0) (ZK d.id) rfl ?_
 refine hv.ld hB.cut (i:=1) (ZK d.dist) rfl ?_
 refine QfD hB hr ha hm hl ?_
 exact hR
def Qhi (d:Qbb):List UInt8:=vec3B d.x.toNat d.y.toNat d.z.toNat d.t1.toNat d.t2.toNat d.a.toNat d.b.toNat
theorem Vec3T_Pack {v w:Value} {d:Qbb} (hv:ZS F v #[Qfr d.x,Qfr d.y,Qfr d.z,f64V d.t1,.int .u8 (d.t2.toNat:Int),w]) (hw:ZS F w #[Qcx d.a,i8V d.b]) (hl:S.buf.length+96<=536870912)
  (hR:∀H',Qc H' p (place (Qhi d) (prep 8 32 S)) F 0->R (.int .u32 ((place (Qhi d) (prep 8 32 S)).buf.length:Nat)) H'):
  FnS prog 115 #[v,.pointer (some ⟨p,0,none⟩)] H R:=by
 apply w115
 unfold s115
 obtain ⟨q,e,rfl,hq⟩:=hv
 have hv:ZS F (.pointer (some ⟨q,0,none⟩)) #[Qfr d.x,Qfr d.y,Qfr d.z,f64V d.t1,.int .u8 (d.t2.toNat:Int),w]:=⟨q,e,rfl,hq⟩
 rw[Y1 (by kernel_rfl)]
 show IfK (.bool false) _ _
 rw[Qbv]
 refine hv.ld hB.cut (i:=0) (Qfr d.x) rfl ?_
 refine hv.ld hB.cut (i:=1) (Qfr d.y) rfl ?_
 refine hv.ld hB.cut (i:=2) (Qfr d.z) rfl ?_
 refine hv.ld hB.cut (i:=3) (f64V d.t1) rfl ?_
 refine hv.ld hB.cut (i:=4) (.int .u8 (d.t2.toNat:Int)) rfl ?_
 refine hv.ld hB.cut (i:=5) w rfl ?_
 refine hw.ld hB.cut (i:=0) (Qcx d.a) rfl ?_
 refine hv.ld hB.cut (i:=5) w rfl ?_
 refine hw.ld hB.cut (i:=1) (i8V d.b) rfl ?_
 refine QgT hB d.t2.toNat_lt hl ?_
 exact hR
end
end Go.Proofs
namespace Go.Proofs
open Go Go.Vc
open Tryz (prog)
def vecS (es al:Nat) (items:List (List UInt8)) (S:BS):BS:=QhY items.length (place items.flatten (QL es items.length al S))
def Zh (L:Nat):List Nat->List (List UInt8)
 |[]=>[]
 |o::os=>leB ((L+4*os.length-o+4:Nat):Int) 4::Zh L os
theorem QcU (L:Nat):∀os,(Zh L os).length=os.length
 |[]=>rfl
 |o::os=>by simp[Zh,QcU L os]
def Qes (offs:List Nat) (S:BS):BS:=vecS 4 4 (Zh (QL 4 offs.length 4 S).buf.length offs) S
def Q5 {α:Type} (f:α->BS->BS×Nat):List α->BS->BS×List Nat
 |[],S=>(S,[])
 |x::xs,S=>((Q5 f xs (f x S).1).1,(f x S).2::(Q5 f xs (f x S).1).2)
theorem Qh9 {α:Type} (f:α->BS->BS×Nat) (x:α):∀(xs:List α) (S:BS),
  Q5 f (xs++[x]) S=((f x (Q5 f xs S).1).1,(Q5 f xs S).2++[(f x (Q5 f xs S).1).2])
 |[],S=>rfl
 |y::xs,S=>by
  rw[List.cons_append,Q5,Qh9 f x xs]
  rfl
theorem Qa0 {α:Type} (f:α->BS->BS×Nat):∀(xs:List α) (S:BS),(Q5 f xs S).2.length=xs.length
 |[],S=>rfl
 |y::xs,S=>by simp[Q5,Qa0 f xs]
theorem QaI {es:Nat}:∀(items:List (List UInt8)),(∀x∈items,x.length=es)->items.flatten.length=es*items.length
 |[],_=>by simp
 |x::xs,h=>by
  rw[List.flatten_cons,List.length_append,QaI xs (fun y hy=>h y (List.mem_cons_of_mem _ hy)),h x List.mem_cons_self,List.length_cons,Nat.mul_add]
  omega
theorem Qc8 (L:Nat):∀os,∀x∈Zh L os,x.length=4
 |[],x,hx=>by simp[Zh]at hx
 |o::os,x,hx=>by
  rcases List.mem_cons.1 hx with rfl|hx
  ·exact Qi _ _
  ·exact Qc8 L os x hx
theorem QcY (es n al:Nat) (S:BS) (hal:0<al):∃x,(QL es n al S).buf=x++S.buf/\x.length<=3+al:=by
 have h1:=Zk (size:=4) (n:=S.buf.length+es*n) (by decide)
 have h2:=Zk (size:=al) (n:=(prep 4 (es*n) {S with nested:=true}).buf.length+es*n) hal
 refine ⟨List.replicate (padOf al ((prep 4 (es*n) {S with nested:=true}).buf.length+es*n)) 0++List.replicate (padOf 4 (S.buf.length+es*n)) 0,?_,?_⟩
 ·exact (List.append_assoc _ _ _).symm
 ·simp;omega
theorem startVec_nested (es n al:Nat) (S:BS):(QL es n al S).nested=true:=rfl
theorem QfP (es n al:Nat) (S:BS):4<=(QL es n al S).min/\al<=(QL es n al S).min:=
 ⟨Nat.le_trans (Nat.le_max_right S.min 4) (Nat.le_max_left _ al),Nat.le_max_right _ al⟩
theorem Qee {es n al k:Nat} (S:BS) (hal:al=2^k):((QL es n al S).buf.length+es*n)%al=0:=by
 have h:=Qco (size:=al) (n:=(prep 4 (es*n) {S with nested:=true}).buf.length+es*n) (by rw[hal];exact Nat.two_pow_pos k)
 have e:(QL es n al S).buf.length=padOf al ((prep 4 (es*n) {S with nested:=true}).buf.length+es*n)+(prep 4 (es*n) {S with nested:=true}).buf.length:=by
  unfold QL;rw[Qa5]
 rw[e]
 rw[<-h];congr 1;omega
theorem Y7 {es n al k:Nat} (S:BS) (hal:al=2^k) (hk:k<=3):
  es*n+5<=Nat.max ((4+es*n+1)-padOf al ((prep 4 (es*n) {S with nested:=true}).buf.length+es*n)) (al+es*n+1):=by
 have hc:k=3\/k<=2:=by omega
 rcases hc with rfl|hc
 ·refine Nat.le_trans ?_ (Nat.le_max_right _ _)
  rw[hal];omega
 ·refine Nat.le_trans ?_ (Nat.le_max_left _ _)
  have h1:=Qco (size:=4) (n:=S.buf.length+es*n) (by decide)
  have h2:((prep 4 (es*n) {S with nested:=true}).buf.length+es*n)%al=0:=by
   have e:(prep 4 (es*n) {S with nested:=true}).buf.length+es*n=S.buf.length+es*n+padOf 4 (S.buf.length+es*n):=by
    rw[Qa5];show padOf 4 (S.buf.length+es*n)+S.buf.length+es*n=_;omega
   rw[e]
   have hd:al∣4:=by
    rw[hal]
    have:k=0\/k=1\/k=2:=by omega
    rcases this with rfl|rfl|rfl<;>decide
   exact Nat.mod_eq_zero_of_dvd (Nat.dvd_trans hd (Nat.dvd_of_mod_eq_zero h1))
  rw[YT h2];omega
theorem Yw.vecS {S:BS} (h:Inv S) {es al:Nat} {items:List (List UInt8)} (hal:P2 al) (hi:∀x∈items,x.length=es):
  Yw S (es*items.length+15) (Proofs.vecS es al items S,(Proofs.vecS es al items S).buf.length)/\0<(Proofs.vecS es al items S).buf.length:=by
 obtain ⟨x,hx,hxl⟩:=QcY es items.length al S hal.pos
 have h8:=hal.le
 have hf:=QaI items hi
 have e:(Proofs.vecS es al items S).buf=leB (items.length:Int) 4++(items.flatten++(x++S.buf)):=by
  show leB (items.length:Int) 4++(items.flatten++(QL es items.length al S).buf)=_
  rw[hx]
 have el:(Proofs.vecS es al items S).buf.length=4+es*items.length+x.length+S.buf.length:=by
  rw[e];simp only[List.length_append,Qi,hf];omega
 refine ⟨⟨⟨rfl,h.vts.ext (S':=Proofs.vecS es al items S) rfl (x:=leB (items.length:Int) 4++(items.flatten++x)) (by rw[e];simp),?_,(h.min.max P2_4).max hal⟩,?_,?_,?_⟩,?_⟩
 ·have:=h.nv
  show S.vts.length<=(Proofs.vecS es al items S).buf.length
  omega
 ·show (Proofs.vecS es al items S).buf.length<=_
  omega
 ·show _<=(Proofs.vecS es al items S).buf.length
  omega
 ·exact Nat.le_refl _
 ·omega
theorem QbI {α:Type} {f:α->BS->BS×Nat} {c:α->Nat}:∀(xs:List α),(∀x∈xs,∀S,Inv S->Yw S (c x) (f x S))->∀S,Inv S->
  Inv (Q5 f xs S).1/\(Q5 f xs S).1.buf.length<=S.buf.length+(xs.map c).sum/\S.buf.length<=(Q5 f xs S).1.buf.length/\∀o∈(Q5 f xs S).2,o<=(Q5 f xs S).1.buf.length
 |[],_,S,h=>⟨h,by simp[Q5],Nat.le_refl _,by simp[Q5]⟩
 |x::xs,hf,S,h=>by
  have h1:=hf x List.mem_cons_self S h
  obtain ⟨g1,g2,g3,g4⟩:=QbI xs (fun y hy=>hf y (List.mem_cons_of_mem _ hy)) (f x S).1 h1.inv
  refine ⟨g1,?_,?_,?_⟩
  ·show (Q5 f xs (f x S).1).1.buf.length<=_
   have:=h1.len
   simp only[List.map_cons,List.sum_cons];omega
  ·show _<=(Q5 f xs (f x S).1).1.buf.length
   have:=h1.le;omega
  ·intro o ho
   show o<=(Q5 f xs (f x S).1).1.buf.length
   rcases List.mem_cons.1 ho with rfl|ho
   ·have:=h1.off;omega
   ·exact g4 o ho
end Go.Proofs
namespace Go.Proofs
open Go Go.Vc
open Tryz (prog)
def optB (xs:List UInt8) (S:BS):BS×Nat:=if xs=[] then (S,0) else (createStr xs S,(createStr xs S).buf.length)
def Qgl (es al:Nat) (items:List (List UInt8)) (S:BS):BS×Nat:=if items=[] then (S,0) else (vecS es al items S,(vecS es al items S).buf.length)
def QhE (q:BS->BS×List Nat) (S:BS):BS×Nat:=
 if (q S).2=[] then (S,0) else (Qes (q S).2 (q S).1,(Qes (q S).2 (q S).1).buf.length)
def QaR (xs:List UInt8) (S:BS):BS×Nat:=(createStr xs S,(createStr xs S).buf.length)
def QgB (d:Option QaX) (S:BS):BS×Nat:=match d with|some d=>Qch d S|none=>(S,0)
def Qdx (b:Bool) (S:BS):BS×Nat:=if b then Qdm S else (S,0)
def Qb9 (amb:Bool) (ty color:UInt8) (kid:BS->BS×Nat) (S:BS):BS×Nat:=
 if ty=0 then (S,0) else if amb=false/\ty=2 then QcK color S else kid S
def QeF (b:Bool):List UInt8:=[if b then 1 else 0]
def Qap (x:UInt64):List UInt8:=leB (x.toNat:Int) 8
def Qgh (d:QcO) (tables:BS->BS×List Nat) (enemy test uniq amb:BS->BS×Nat):List (BS->BS×Nat):=
 [QaR d.name,optB d.inventory,Qb9 false d.testTy d.testColor test,Qgl 4 2 (d.test4.map fun t=>QaJ t.a.toNat t.b.toNat),QhE (Q5 QaR d.strings),QhE tables,enemy,optB d.nested,QgB d.empty,
  Qgl 1 1 (d.bools.map QeF),QhE (Q5 QaR d.strings2),Qgl 8 4 (d.abilities.map fun t=>Zv t.id.toNat t.dist.toNat),optB d.flex,Qgl 4 2 (d.test5.map fun t=>QaJ t.a.toNat t.b.toNat),
  Qgl 8 8 (d.longs.map Qap),Qgl 8 8 (d.doubles.map Qap),Qdx d.parent,QhE (Q5 QaW d.refs),Qgl 8 8 (d.weak.map Qap),QhE (Q5 QaW d.strong),Qgl 8 8 (d.coOwnings.map Qap),Qgl 8 8 (d.nonOwnings.map Qap),
  Qb9 false d.uniqTy d.uniqColor uniq,Qb9 true d.ambTy d.ambColor amb,Qgl 1 1 (d.enums.map fun b=>[b])]
def slotPos (pos:Option Qbb) (S:BS):BS:=match pos with|some v=>slotStruct (place (Qhi v) (prep 8 32 S)).buf.length 0 (place (Qhi v) (prep 8 32 S))|none=>S
def slotTy (ty:UInt8) (o:Nat) (S:BS):BS:=if ty=0 then S else slotN 1 ty.toNat 0 o S
def Yl (d:QcO) (o:List Nat):List (BS->BS):=
 [slotPos d.pos,slotN 2 d.mana.toNat 150 1,slotN 2 d.hp.toNat 100 2,slotOff (o.getD 0 0) 3,slotOff (o.getD 1 0) 5,slotN 1 d.color.toNat 8 6,slotTy d.testTy 7,slotOff (o.getD 2 0) 8,slotOff (o.getD 3 0) 9,slotOff (o.getD 4 0) 10,slotOff (o.getD 5 0) 11,
  slotOff (o.getD 6 0) 12,slotOff (o.getD 7 0) 13,slotOff (o.getD 8 0) 14,slotN 1 (if d.bool then 1 else 0) 0 15,slotN 4 d.s32.toNat 0 16,slotN 4 d.u32.toNat 0 17,slotN 8 d.s64.toNat 0 18,slotN 8 d.u64.toNat 0 19,
  slotN 4 d.s32a.toNat 0 20,slotN 4 d.u32a.toNat 0 21,slotN 8 d.s64a.toNat 0 22,slotN 8 d.u64a.toNat 0 23,slotOff (o.getD 9 0) 24,slotF d.f.toNat 1078530000 25,slotF d.f2.toNat 1077936128 26,slotF d.f3.toNat 0 27,
  slotOff (o.getD 10 0) 28,slotOff (o.getD 11 0) 29,slotOff (o.getD 12 0) 30,slotOff (o.getD 13 0) 31,slotOff (o.getD 14 0) 32,slotOff (o.getD 15 0) 33,slotOff (o.getD 16 0) 34,slotOff (o.getD 17 0) 35,slotN 8 d.singleWeak.toNat 0 36,
  slotOff (o.getD 18 0) 37,slotOff (o.getD 19 0) 38,slotN 8 d.coOwning.toNat 0 39,slotOff (o.getD 20 0) 40,slotN 8 d.nonOwning.toNat 0 41,slotOff (o.getD 21 0) 42,slotTy d.uniqTy 43,slotOff (o.getD 22 0) 44,slotTy d.ambTy 45,
  slotOff (o.getD 23 0) 46,slotOff (o.getD 24 0) 47,slotN 1 d.signedEnum.toNat 255 48]
def Zi:List (BS->BS)->BS->BS
 |[],S=>S
 |f::fs,S=>Zi fs (f S)
def packT (d:QcO) (tables:BS->BS×List Nat) (enemy test uniq amb:BS->BS×Nat) (S:BS):BS×Nat:=
 endT (Zi (Yl d (Q5 (fun f=>f) (Qgh d tables enemy test uniq amb) S).2) (Qw 49 (Q5 (fun f=>f) (Qgh d tables enemy test uniq amb) S).1))
mutual
def ZT:Mon->BS->BS×Nat
 |.mk d tables enemy test uniq amb,S=>packT d (Qdb tables) (YW enemy) (YW test) (YW uniq) (YW amb) S
def Qdb:List Mon->BS->BS×List Nat
 |[],S=>(S,[])
 |m::ms,S=>((Qdb ms (ZT m S).1).1,(ZT m S).2::(Qdb ms (ZT m S).1).2)
def YW:List Mon->BS->BS×Nat
 |[],S=>(S,0)
 |m::_,S=>ZT m S
end
theorem QeM:∀(ms:List Mon) (S:BS),Qdb ms S=Q5 ZT ms S
 |[],S=>by rw[Qdb,Q5]
 |m::ms,S=>by rw[Qdb,Q5,QeM ms]
def ZC (m:Mon):List UInt8:=(finish (ZT m Qcp).2 (ZT m Qcp).1).buf
end Go.Proofs
namespace Go.Proofs
open Go Go.Vc
open Tryz (prog)
abbrev u8n (x:UInt8):Value:=.int .u8 (x.toNat:Int)
def QdQ {α:Type} (F:Cut) (v:Value) (l:List α) (cells:α->Array Value):Prop:=
 ∃ptrs:List Value,Qaj F v ptrs/\ptrs.length=l.length/\∀(i:Nat) p t,ptrs[i]?=some p->l[i]?=some t->ZS F p (cells t)
def testC (t:Qbo):Array Value:=#[Qcx t.a,i8V t.b]
def abilC (t:Qeu):Array Value:=#[ZK t.id,ZK t.dist]
def refC (x:UInt64):Array Value:=#[ZB x]
def statC (d:QaX):Array Value:=#[YK d.id,QdX d.val,u16V d.count]
def Vec3At (F:Cut) (v:Value) (d:Qbb):Prop:=∃w,ZS F v #[Qfr d.x,Qfr d.y,Qfr d.z,f64V d.t1,u8n d.t2,w]/\ZS F w #[Qcx d.a,i8V d.b]
def OptAt {α:Type} (v:Value) (o:Option α) (at_:α->Prop):Prop:=match o with|none=>v= .pointer none|some x=>at_ x
def Qcu (F:Cut) (amb:Bool) (ty color:UInt8) (v c:Value) (kids:List Mon):Prop:=
 (ty=0/\v= .pointer none/\kids=[])\/
 (ty≠0/\∃w,ZS F v #[u8n ty,w]/\
  ((amb=false/\ty=2/\w= .iface 258 c/\ZS F c #[u8n color]/\kids=[])\/
   ((ty=1\/(amb=true/\(ty=2\/ty=3)))/\w= .iface 69 c/\∃k,kids=[k])))
structure MTV where
 pos:Value
 inv:Value
 test:Value
 test4:Value
 strings:Value
 tables:Value
 enemy:Value
 nested:Value
 empty:Value
 bools:Value
 strings2:Value
 abil:Value
 flex:Value
 test5:Value
 longs:Value
 doubles:Value
 parent:Value
 refs:Value
 weak:Value
 strong:Value
 coOwnings:Value
 nonOwnings:Value
 uniq:Value
 amb:Value
 enums:Value
 testC:Value
 uniqC:Value
 ambC:Value
def mtCells (d:QcO) (v:MTV):Array Value:=
 #[v.pos,Qcx d.mana,Qcx d.hp,YK d.name,v.inv,u8n d.color,v.test,v.test4,v.strings,v.tables,v.enemy,v.nested,v.empty,.bool d.bool,
  Qgw d.s32,ZK d.u32,QdX d.s64,ZB d.u64,Qgw d.s32a,ZK d.u32a,QdX d.s64a,ZB d.u64a,v.bools,Qfr d.f,Qfr d.f2,Qfr d.f3,v.strings2,v.abil,v.flex,v.test5,
  v.longs,v.doubles,v.parent,v.refs,ZB d.singleWeak,v.weak,v.strong,ZB d.coOwning,v.coOwnings,ZB d.nonOwning,v.nonOwnings,v.uniq,v.amb,v.enums,i8V d.signedEnum]
structure MTD (F:Cut) (d:QcO) (v:MTV) (enemy test uniq amb:List Mon):Prop where
 pos:OptAt v.pos d.pos (Vec3At F v.pos)
 inv:Qaj F v.inv (d.inventory.map u8V)
 test:Qcu F false d.testTy d.testColor v.test v.testC test
 test4:QdQ F v.test4 d.test4 testC
 strings:Qaj F v.strings (d.strings.map YK)
 enemy:(enemy=[]/\v.enemy= .pointer none)\/∃k,enemy=[k]
 nested:Qaj F v.nested (d.nested.map u8V)
 empty:OptAt v.empty d.empty (fun s=>ZS F v.empty (statC s))
 bools:Qaj F v.bools (d.bools.map Value.bool)
 strings2:Qaj F v.strings2 (d.strings2.map YK)
 abil:QdQ F v.abil d.abilities abilC
 flex:Qaj F v.flex (d.flex.map u8V)
 test5:QdQ F v.test5 d.test5 testC
 longs:Qaj F v.longs (d.longs.map QdX)
 doubles:Qaj F v.doubles (d.doubles.map f64V)
 parent:(d.parent=false/\v.parent= .pointer none)\/(d.parent=true/\∃a,v.parent= .pointer (some a))
 refs:QdQ F v.refs d.refs refC
 weak:Qaj F v.weak (d.weak.map ZB)
 strong:QdQ F v.strong d.strong refC
 coOwnings:Qaj F v.coOwnings (d.coOwnings.map ZB)
 nonOwnings:Qaj F v.nonOwnings (d.nonOwnings.map ZB)
 uniq:Qcu F false d.uniqTy d.uniqColor v.uniq v.uniqC uniq
 amb:Qcu F true d.ambTy d.ambColor v.amb v.ambC amb
 enums:Qaj F v.enums (d.enums.map u8V)
inductive MT (F:Cut):Value->Mon->Prop where
 |mk (v:Value) (d:QcO) (c:MTV) (ptrs:List Value) (tables enemy test uniq amb:List Mon) (obj:ZS F v (mtCells d c)) (own:MTD F d c enemy test uniq amb)
   (tl:Qaj F c.tables ptrs) (tlen:ptrs.length=tables.length) (tt:∀(i:Nat) p m,ptrs[i]?=some p->tables[i]?=some m->MT F p m)
   (te:∀k,k∈enemy->MT F c.enemy k) (tu:∀k,k∈test->MT F c.testC k) (tq:∀k,k∈uniq->MT F c.uniqC k) (ta:∀k,k∈amb->MT F c.ambC k):MT F v (.mk d tables enemy test uniq amb)
def Qhq:Option QaX->Nat
 |some s=>s.id.length
 |none=>0
def Qhy (d:QcO):Nat:=
 d.name.length+d.inventory.length+d.nested.length+d.flex.length+d.enums.length+(d.strings.map List.length).sum+(d.strings2.map List.length).sum+Qhq d.empty+
 60*(d.test4.length+d.strings.length+d.bools.length+d.strings2.length+d.abilities.length+d.test5.length+d.longs.length+d.doubles.length+d.refs.length+d.weak.length+d.strong.length+d.coOwnings.length+d.nonOwnings.length)+8000
mutual
def Qcq:Mon->Nat
 |.mk d tables enemy test uniq amb=>Qhy d+60*tables.length+ZI tables+ZI enemy+ZI test+ZI uniq+ZI amb
def ZI:List Mon->Nat
 |[]=>0
 |m::ms=>Qcq m+ZI ms
end
end Go.Proofs
namespace Go.Proofs
open Go Go.Vc
open Tryz (prog)
def VecBlock (q fld start endv f:Nat) (tsl:TypeId) (args:Value->Array Value) (x1:Value) (h4:Qf) (rest:Kn):Prop:=
 QO (fun M2=>
  Qs (.pointer (some ⟨q,0,none⟩)) fun x97=>Qg x97 fld fun x98=>LdK h4 x98 fun x99=>
  Ql prog .neq tsl x99 (.slice none 0 0) fun x100=>
  IfK x100
  (Qs (.pointer (some ⟨q,0,none⟩)) fun x102=>Qg x102 fld fun x103=>LdK h4 x103 fun x104=>
   Y8 x104 fun x105=>
   Qa prog start #[x1,x105] h4 fun _x108 h5=>
   QO (fun M3=>
    Ql prog .sub 3 x105 (.int .i64 1) fun x110=>
    Y6 [x110] h5 fun I4 n5=>∀x10:Value,∀h6:Qf,I4 n5 [x10] h6->
    Ql prog .geq 3 x10 (.int .i64 0) fun x112=>
    IfK x112
    (Qs (.pointer (some ⟨q,0,none⟩)) fun x116=>Qg x116 fld fun x117=>LdK h6 x117 fun x118=>
     Yn 1 x118 x10 fun x120=>LdK h6 x120 fun x121=>
     Qa prog f (args x121) h6 fun _x123 h7=>
     Ql prog .sub 3 x10 (.int .i64 1) fun x114=>
     Yb I4 n5 [x114] h7)
    (M3 [x10] h6)) fun M3=>∀x10_1:Value,∀h8:Qf,M3 [x10_1] h8->
   Qa prog endv #[x1,x105] h8 fun x126 h9=>M2 [x126] h9)
  (M2 [(.int .u32 0)] h4)) fun M2=>∀x8:Value,∀h10:Qf,M2 [x8] h10->rest x8 h10
theorem flatten_drop {items:List (List UInt8)} {i:Nat} (hi:i<items.length):(items.drop i).flatten=items[i]++(items.drop (i+1)).flatten:=by
 rw[List.drop_eq_getElem_cons hi,List.flatten_cons]
set_option maxHeartbeats 1000000 in
theorem QcP {H:Qf} {p:Nat} {S:BS} {F:Cut} {r:Nat} (hB:Qc H p S F r) {q fld start f:Nat} {tsl e0:TypeId} {args:Value->Array Value} {v0:Value} {cells:Array Value} {vs:List Value} {es al k:Nat}
  {items:List (List UInt8)} {rest:Kn} (ht:(prog).underlying tsl=some (.slice e0)) (hq:ZS F (.pointer (some ⟨q,0,none⟩)) cells) (hf:cells[fld]?=some v0) (hv:Qaj F v0 vs) (hvi:vs.length=items.length)
  (hi:∀x∈items,x.length=es) (hI:Inv S) (hal:al=2^k) (hk:k<=3) (hn:items.length<536870912) (hl:S.buf.length+es*items.length+80<=536870912)
  (hstart:∀H,Qc H p S F 0->∀R:Kn,(∀H' v,Qc H' p (QL es items.length al S) F (es*items.length+5)->R v H')->FnS prog start #[.pointer (some ⟨p,0,none⟩),.int .i64 (items.length:Nat)] H R)
  (hstep:∀(i:Nat) (hi1:i<vs.length) (hi2:i<items.length) (S':BS) (H':Qf) (r':Nat),Qc H' p S' F r'->es<=r'->(S'.buf.length+es*(i+1))%al=0->4<=S'.min->al<=S'.min->S'.buf.length+64<=536870912->
   ∀R:Kn,(∀H'' w,Qc H'' p (place (items[i]'hi2) S') F (r'-es)->R w H'')->FnS prog f (args (vs[i]'hi1)) H' R)
  (hrest:∀H',Qc H' p (Qgl es al items S).1 F 0->rest (.int .u32 ((Qgl es al items S).2:Nat)) H'):
  VecBlock q fld start 88 f tsl args (.pointer (some ⟨p,0,none⟩)) H rest:=by
 have hfl:=QaI items hi
 have hemp:(vs=[])↔(items=[]):=by
  rw[<-List.length_eq_zero_iff,<-List.length_eq_zero_iff,hvi]
 unfold VecBlock
 refine QK (fun ws h=>ws=[.int .u32 ((Qgl es al items S).2:Nat)]/\Qc h p (Qgl es al items S).1 F 0) ?_ ?_
 ·refine hq.ld hB.cut (i:=fld) v0 hf ?_
  rw[hv.neq ht]
  by_cases h0:items=[]
  ·have hvn:¬vs≠[]:=fun h=>h (hemp.2 h0)
   rw[Q2 hvn]
   unfold Qgl
   rw[if_pos h0]
   exact ⟨rfl,hB.room (Nat.zero_le _)⟩
  ·have hvn:vs≠[]:=fun h=>h0 (hemp.1 h)
   rw[Q1 hvn]
   refine hq.ld hB.cut (i:=fld) v0 hf ?_
   rw[hv.1.len,hvi]
   refine hstart H (hB.room (Nat.zero_le _)) _ ?_
   intro H1 w h1
   have hm:=QfP es items.length al S
   have ha:=Qee (es:=es) (n:=items.length) S hal
   obtain ⟨x,hx,hxl⟩:=QcY es items.length al S (by rw[hal];exact Nat.two_pow_pos k)
   have hal8:al<=8:=by rw[hal];exact Nat.pow_le_pow_right (by decide) hk
   have hS1l:(QL es items.length al S).buf.length<=S.buf.length+11:=by rw[hx,List.length_append];omega
   have hS1n:(QL es items.length al S).nested=true:=rfl
   have hopt:Qgl es al items S=(QhY items.length (place items.flatten (QL es items.length al S)),(QhY items.length (place items.flatten (QL es items.length al S))).buf.length):=by
    unfold Qgl vecS;rw[if_neg h0]
   rw[hopt]
   generalize QL es items.length al S=S1 at *
   refine QK (fun _ h=>Qc h p (place items.flatten S1) F 5) ?_ ?_
   ·rw[Yk,wrap_i64 (by omega) (by omega)]
    refine ⟨fun m ws h=>∃i:Nat,ws=[.int .i64 ((i:Int)-1)]/\i<=items.length/\m=i/\Qc h p (place (items.drop i).flatten S1) F (es*i+5),⟨_,items.length,rfl,Nat.le_refl _,rfl,?_⟩,fun m=>?_⟩
    ·rw[List.drop_length];exact h1
    ·rintro x10 h6 ⟨i,hx,hi',rfl,hb⟩
     cases hx
     rw[Qg2]
     apply Z2
     ·intro hge
      have hm1:m-1<items.length:=by omega
      have hm2:m-1+1=m:=by omega
      refine hq.ld hb.cut (i:=fld) v0 hf ?_
      refine hv.1.item hb.cut (i:=m-1) (by omega) (by omega) ?_
      have hdl:(items.drop m).flatten.length=es*(items.length-m):=by
       rw[QaI (items.drop m) (fun y hy=>hi y (List.mem_of_mem_drop hy)),List.length_drop]
      have hsum:es*(items.length-m)+es*m=es*items.length:=by rw[<-Nat.mul_add,show items.length-m+m=items.length by omega]
      have hmul:es*m=es*(m-1)+es:=by
       obtain ⟨m',rfl⟩:∃m',m=m'+1:=⟨m-1,by omega⟩
       simp[Nat.mul_add]
      refine hstep (m-1) (by omega) hm1 _ h6 _ hb (by omega) ?_ ?_ ?_ ?_ _ ?_
      ·rw[Y3,hdl,hm2,show es*(items.length-m)+S1.buf.length+es*m=S1.buf.length+es*items.length by omega]
       exact ha
      ·exact hm.1
      ·exact hm.2
      ·rw[Y3,hdl]
       have:es*(items.length-m)<=es*items.length:=by omega
       omega
      ·intro h7 w7 hb7
       rw[Yk,wrap_i64 (by omega) (by omega)]
       refine ⟨m-1,by omega,m-1,by rw[show ((m:Int)-1-1)=(((m-1:Nat):Int)-1) by omega],by omega,rfl,?_⟩
       rw[YX]at hb7
       rw[flatten_drop hm1,hm2]
       exact hb7.room (by omega)
     ·intro hge
      have hm0:m=0:=by omega
      subst hm0
      exact hb
   ·intro x10 h8 hb8
    refine Qa2 hb8 hS1n (by decide) (by omega) ?_
    intro h9 hb9
    exact ⟨rfl,hb9.room (by decide)⟩
 ·rintro x8 h10 ⟨hx,hb⟩
  cases hx
  exact hrest h10 hb
end Go.Proofs
namespace Go.Proofs
open Go Go.Vc
open Tryz (prog)
theorem Cut.upd_upd {F:Cut} {b:Nat} {o o':Obj}:(F.upd b o).upd b o'=F.upd b o':=by
 funext b'
 by_cases h:b'=b
 ·subst h;rw[Cut.upd_same,Cut.upd_same]
 ·rw[Cut.upd_ne h,Cut.upd_ne h,Cut.upd_ne h]
theorem MT.mono {F G:Cut} (hFG:F.le G) {v:Value} {m:Mon} (h:MT F v m):MT G v m:=by
 have lm:∀{α:Type} {v:Value} {l:List α} {cells:α->Array Value},QdQ F v l cells->QdQ G v l cells:=by
  rintro α v l cells ⟨ptrs,h1,h2,h3⟩
  exact ⟨ptrs,h1.mono hFG,h2,fun i p t hp ht=>(h3 i p t hp ht).mono hFG⟩
 have um:∀{amb:Bool} {ty color:UInt8} {v c:Value} {kids:List Mon},Qcu F amb ty color v c kids->Qcu G amb ty color v c kids:=by
  rintro amb ty color v c kids (h|⟨h1,w,h2,h3⟩)
  ·exact Or.inl h
  ·refine Or.inr ⟨h1,w,h2.mono hFG,?_⟩
   rcases h3 with ⟨a,b,c',d,e⟩|h3
   ·exact Or.inl ⟨a,b,c',d.mono hFG,e⟩
   ·exact Or.inr h3
 induction h with
 |mk v d c ptrs tables enemy test uniq amb obj own tl tlen tt te tu tq ta it ie iu iq ia=>
  refine MT.mk v d c ptrs tables enemy test uniq amb (obj.mono hFG) ?_ (tl.mono hFG) tlen it ie iu iq ia
  refine ⟨?_,own.inv.mono hFG,um own.test,lm own.test4,own.strings.mono hFG,own.enemy,own.nested.mono hFG,?_,own.bools.mono hFG,own.strings2.mono hFG,lm own.abil,own.flex.mono hFG,lm own.test5,own.longs.mono hFG,own.doubles.mono hFG,
   own.parent,lm own.refs,own.weak.mono hFG,lm own.strong,own.coOwnings.mono hFG,own.nonOwnings.mono hFG,um own.uniq,um own.amb,own.enums.mono hFG⟩
  ·have:=own.pos
   cases hp:d.pos with
   |none=>rw[hp]at this;exact this
   |some x=>
    rw[hp]at this
    obtain ⟨w,h1,h2⟩:=this
    exact ⟨w,h1.mono hFG,h2.mono hFG⟩
  ·have:=own.empty
   cases hp:d.empty with
   |none=>rw[hp]at this;exact this
   |some x=>rw[hp]at this;exact ZS.mono hFG this
def BytesBlock (q fld:Nat) (tsl:TypeId) (x1:Value) (h1:Qf) (rest:Kn):Prop:=
 QO (fun M1=>
  Qs (.pointer (some ⟨q,0,none⟩)) fun x80=>Qg x80 fld fun x81=>LdK h1 x81 fun x82=>
  Ql prog .neq tsl x82 (.slice none 0 0) fun x83=>
  IfK x83
  (Qs (.pointer (some ⟨q,0,none⟩)) fun x86=>Qg x86 fld fun x87=>LdK h1 x87 fun x88=>
   Qa prog 84 #[x1,x88] h1 fun x89 h2=>M1 [x89] h2)
  (M1 [(.int .u32 0)] h1)) fun M1=>∀x6:Value,∀h3:Qf,M1 [x6] h3->rest x6 h3
theorem QhI {H:Qf} {p:Nat} {S:BS} {F:Cut} {r:Nat} (hB:Qc H p S F r) {q fld:Nat} {tsl e0:TypeId} {v0:Value} {cells:Array Value} {xs:List UInt8} {rest:Kn}
  (ht:(prog).underlying tsl=some (.slice e0)) (hq:ZS F (.pointer (some ⟨q,0,none⟩)) cells) (hf:cells[fld]?=some v0) (hv:Qaj F v0 (xs.map u8V)) (hI:Inv S) (hl:S.buf.length+xs.length+80<=536870912)
  (hrest:∀H',Qc H' p (optB xs S).1 F 0->rest (.int .u32 ((optB xs S).2:Nat)) H'):
  BytesBlock q fld tsl (.pointer (some ⟨p,0,none⟩)) H rest:=by
 unfold BytesBlock
 refine QK (fun ws h=>ws=[.int .u32 ((optB xs S).2:Nat)]/\Qc h p (optB xs S).1 F 0) ?_ ?_
 ·refine hq.ld hB.cut (i:=fld) v0 hf ?_
  rw[hv.neq ht]
  by_cases h0:xs=[]
  ·have hvn:¬xs.map u8V≠[]:=by rw[h0];simp
   rw[Q2 hvn]
   unfold optB
   rw[if_pos h0]
   exact ⟨rfl,hB.room (Nat.zero_le _)⟩
  ·have hvn:xs.map u8V≠[]:=by simpa using h0
   rw[Q1 hvn]
   refine hq.ld hB.cut (i:=fld) v0 hf ?_
   obtain ⟨a,c,rfl,hb⟩:=hv.1.bytes
   refine Qdv hB (fun H' hF=>hb H' hF) hI.nested (by omega) ?_
   intro H1 h1
   unfold optB
   rw[if_neg h0]
   exact ⟨rfl,h1⟩
 ·rintro x8 h10 ⟨hx,hb⟩
  cases hx
  exact hrest h10 hb
def OffBlock (q fld start f:Nat) (tsl:TypeId) (args:Value->Array Value) (x1:Value) (h10:Qf) (rest:Kn):Prop:=
 QO (fun M6=>
  Qs (.pointer (some ⟨q,0,none⟩)) fun x128=>Qg x128 fld fun x129=>LdK h10 x129 fun x130=>
  Ql prog .neq tsl x130 (.slice none 0 0) fun x131=>
  IfK x131
  (Qs (.pointer (some ⟨q,0,none⟩)) fun x133=>Qg x133 fld fun x134=>LdK h10 x134 fun x135=>
   Y8 x135 fun x136=>
   Qf5 h10 68 4 z68 x136 x136 fun x138 h11=>
   QO (fun M7=>
    Y6 [(.int .i64 0)] h11 fun I8 n9=>∀x14:Value,∀h12:Qf,I8 n9 [x14] h12->
    Ql prog .lss 3 x14 x136 fun x141=>
    IfK x141
    (Qs (.pointer (some ⟨q,0,none⟩)) fun x148=>Qg x148 fld fun x149=>LdK h12 x149 fun x150=>
     Yn 1 x150 x14 fun x152=>LdK h12 x152 fun x153=>
     Qa prog f (args x153) h12 fun x154 h13=>
     Yn 1 x138 x14 fun x155=>StK h13 1 x155 x154 fun h14=>
     Ql prog .add 3 x14 (.int .i64 1) fun x143=>
     Yb I8 n9 [x143] h14)
    (M7 [x14] h12)) fun M7=>∀x14_1:Value,∀h15:Qf,M7 [x14_1] h15->
   Qa prog start #[x1,x136] h15 fun _x158 h16=>
   QO (fun M10=>
    Ql prog .sub 3 x136 (.int .i64 1) fun x160=>
    Y6 [x160] h16 fun I11 n12=>∀x15:Value,∀h17:Qf,I11 n12 [x15] h17->
    Ql prog .geq 3 x15 (.int .i64 0) fun x162=>
    IfK x162
    (Yn 1 x138 x15 fun x168=>LdK h17 x168 fun x169=>
     Qa prog 71 #[x1,x169] h17 fun _x170 h18=>
     Ql prog .sub 3 x15 (.int .i64 1) fun x164=>
     Yb I11 n12 [x164] h18)
    (M10 [x15] h17)) fun M10=>∀x15_1:Value,∀h19:Qf,M10 [x15_1] h19->
   Qa prog 88 #[x1,x136] h19 fun x173 h20=>M6 [x173] h20)
  (M6 [(.int .u32 0)] h10)) fun M6=>∀x11:Value,∀h21:Qf,M6 [x11] h21->rest x11 h21
theorem offItems_drop (L:Nat):∀(os:List Nat) (i:Nat),(Zh L os).drop i=Zh L (os.drop i)
 |os,0=>rfl
 |[],i+1=>by simp[Zh]
 |o::os,i+1=>by rw[Zh,List.drop_succ_cons,List.drop_succ_cons,offItems_drop L os i]
set_option maxHeartbeats 2000000 in
theorem Qh6 {α:Type} {H:Qf} {p:Nat} {S:BS} {F:Cut} {r:Nat} (hB:Qc H p S F r) {q fld start f:Nat} {tsl e0:TypeId} {args:Value->Array Value} {v0:Value} {cells:Array Value} {vs:List Value} {xs:List α}
  {pk:α->BS->BS×Nat} {c:α->Nat} {sl:Nat} {rest:Kn} (ht:(prog).underlying tsl=some (.slice e0)) (hq:ZS F (.pointer (some ⟨q,0,none⟩)) cells) (hf:cells[fld]?=some v0) (hv:Qaj F v0 vs) (hvi:vs.length=xs.length)
  (hI:Inv S) (hn:xs.length<536870912) (hc:∀x∈xs,∀S,Inv S->Yw S (c x) (pk x S)) (hl:S.buf.length+(xs.map c).sum+4*xs.length+80+sl<=536870912)
  (hstart:∀H S F,Qc H p S F 0->Inv S->S.buf.length+4*xs.length+80<=536870912->∀R:Kn,(∀H' v,Qc H' p (QL 4 xs.length 4 S) F (4*xs.length+5)->R v H')->FnS prog start #[.pointer (some ⟨p,0,none⟩),.int .i64 (xs.length:Nat)] H R)
  (hstep:∀(i:Nat) (hi1:i<vs.length) (hi2:i<xs.length) (S':BS) (H':Qf) (F':Cut),F.le F'->Qc H' p S' F' 0->Inv S'->S'.buf.length+c (xs[i]'hi2)+sl<=536870912->
   ∀R:Kn,(∀H'',Qc H'' p (pk (xs[i]'hi2) S').1 F' 0->R (.int .u32 ((pk (xs[i]'hi2) S').2:Nat)) H'')->FnS prog f (args (vs[i]'hi1)) H' R)
  (hrest:∀H',Qc H' p (QhE (Q5 pk xs) S).1 F 0->rest (.int .u32 ((QhE (Q5 pk xs) S).2:Nat)) H'):
  OffBlock q fld start f tsl args (.pointer (some ⟨p,0,none⟩)) H rest:=by
 have hfl:=Qa0 pk xs S
 have hemp:(vs=[])↔(xs=[]):=by
  rw[<-List.length_eq_zero_iff,<-List.length_eq_zero_iff,hvi]
 have hemp2:((Q5 pk xs S).2=[])↔(xs=[]):=by
  rw[<-List.length_eq_zero_iff,<-List.length_eq_zero_iff,hfl]
 unfold OffBlock
 refine QK (fun ws h=>ws=[.int .u32 ((QhE (Q5 pk xs) S).2:Nat)]/\Qc h p (QhE (Q5 pk xs) S).1 F 0) ?_ ?_
 ·refine hq.ld hB.cut (i:=fld) v0 hf ?_
  rw[hv.neq ht]
  by_cases h0:xs=[]
  ·have hvn:¬vs≠[]:=fun h=>h (hemp.2 h0)
   rw[Q2 hvn]
   unfold QhE
   rw[if_pos (hemp2.2 h0)]
   exact ⟨rfl,hB.room (Nat.zero_le _)⟩
  ·have hvn:vs≠[]:=fun h=>h0 (hemp.1 h)
   rw[Q1 hvn]
   refine hq.ld hB.cut (i:=fld) v0 hf ?_
   rw[hv.1.len,hvi]
   refine ⟨by omega,by omega,by omega,by omega,?_⟩
   simp only[Int.toNat_natCast]
   rw[mk_u32 (z:=z68) rfl]
   have hB1:=(hB.room (Nat.zero_le _)).push (.cells (Qfq (List.replicate xs.length 0)) 68)
   have hFn:=hB.none
   generalize H.size=b at *
   have hle:∀o,F.le (F.upd b o):=fun o=>Cut.le_upd hFn
   obtain ⟨hI2,hI3,hI4,hI5⟩:=QbI (c:=c) xs hc S hI
   refine QK (fun _ h=>Qc h p (Q5 pk xs S).1 (F.upd b (.cells (Qfq (Q5 pk xs S).2) 68)) 0) ?_ ?_
   ·refine ⟨fun m ws h=>∃i:Nat,ws=[.int .i64 (i:Int)]/\i<=xs.length/\m=xs.length-i/\
     Qc h p (Q5 pk (xs.take i) S).1 (F.upd b (.cells (Qfq ((Q5 pk (xs.take i) S).2++List.replicate (xs.length-i) 0)) 68)) 0,⟨_,0,rfl,Nat.zero_le _,rfl,?_⟩,fun m=>?_⟩
    ·exact hB1
    ·rintro x14 h12 ⟨i,hx,hi,rfl,hb⟩
     cases hx
     rw[Y2]
     apply Z2
     ·intro hlt
      have hi2:i<xs.length:=by omega
      have htake:xs.take (i+1)=xs.take i++[xs[i]]:=by
       rw[List.take_add_one,List.getElem?_eq_getElem hi2]
       simp
      obtain ⟨g1,g2,g3,g4⟩:=QbI (c:=c) (xs.take i) (fun x hx=>hc x (List.mem_of_mem_take hx)) S hI
      have hlen2:=Qa0 pk (xs.take i) S
      rw[List.length_take,Nat.min_eq_left (by omega)]at hlen2
      have hsum:((xs.take i).map c).sum+c xs[i]<=(xs.map c).sum:=by
       have e1:((xs.take (i+1)).map c).sum=((xs.take i).map c).sum+c xs[i]:=by rw[htake,List.map_append,List.sum_append,List.map_cons,List.map_nil,List.sum_cons,List.sum_nil,Nat.add_zero]
       have e2:(xs.map c).sum=((xs.take (i+1)).map c).sum+((xs.drop (i+1)).map c).sum:=by
        rw[<-List.sum_append,<-List.map_append,List.take_append_drop]
       omega
      refine (hq.mono (hle _)).ld hb.cut (i:=fld) v0 hf ?_
      refine (hv.1.mono (hle _)).item hb.cut (i:=i) rfl (by omega) ?_
      refine hstep i (by omega) hi2 _ h12 _ (hle _) hb g1 (by omega) _ ?_
      intro h13 hb2
      rw[QR (by omega) (by omega),Int.toNat_natCast,Nat.mul_one,Nat.zero_add]
      have hcell:=hb2.get (b:=b) Cut.upd_same
      rw[ZQ hcell (by rw[Qhc];simp[hlen2];omega) (by simp) rfl,u32c_set,Qx,wrap_i64 (by omega) (by omega)]
      refine ⟨xs.length-(i+1),by omega,i+1,rfl,by omega,rfl,?_⟩
      have hb3:=hb2.set (b:=b) Cut.upd_same (.cells (Qfq (((Q5 pk (xs.take i) S).2++List.replicate (xs.length-i) 0).set i (pk xs[i] (Q5 pk (xs.take i) S).1).2)) 68 (0,0))
      rw[Cut.upd_upd]at hb3
      rw[htake,Qh9]
      have e3:((Q5 pk (xs.take i) S).2++List.replicate (xs.length-i) 0).set i (pk xs[i] (Q5 pk (xs.take i) S).1).2=
        (Q5 pk (xs.take i) S).2++[(pk xs[i] (Q5 pk (xs.take i) S).1).2]++List.replicate (xs.length-(i+1)) 0:=by
       rw[List.set_append_right _ _ (by omega),hlen2,Nat.sub_self]
       obtain ⟨k,hk⟩:∃k,xs.length-i=k+1:=⟨xs.length-i-1,by omega⟩
       rw[hk,List.replicate_succ,List.set_cons_zero,show xs.length-(i+1)=k by omega]
       simp
      rw[e3]at hb3⊢
      exact hb3
     ·intro hge
      have:i=xs.length:=by omega
      subst this
      rw[List.take_length,Nat.sub_self,List.replicate_zero,List.append_nil]at hb
      exact hb
   ·intro x14 h15 hb
    have hopt:QhE (Q5 pk xs) S=(Qes (Q5 pk xs S).2 (Q5 pk xs S).1,(Qes (Q5 pk xs S).2 (Q5 pk xs S).1).buf.length):=by
     unfold QhE;rw[if_neg (fun h=>h0 (hemp2.1 h))]
    rw[hopt]
    generalize (Q5 pk xs S).2=offs at *
    generalize (Q5 pk xs S).1=S2 at *
    refine hstart h15 S2 _ hb hI2 (by omega) _ ?_
    intro h16 w hb16
    have hm:=QfP 4 xs.length 4 S2
    have ha:=Qee (es:=4) (n:=xs.length) S2 (al:=4) (k:=2) rfl
    obtain ⟨x,hx,hxl⟩:=QcY 4 xs.length 4 S2 (by decide)
    have hS1l:(QL 4 xs.length 4 S2).buf.length<=S2.buf.length+7:=by rw[hx,List.length_append];omega
    have hS1g:S2.buf.length<=(QL 4 xs.length 4 S2).buf.length:=by rw[hx,List.length_append];omega
    have hS1n:(QL 4 xs.length 4 S2).nested=true:=rfl
    have hofs:Qes offs S2=QhY xs.length (place (Zh (QL 4 xs.length 4 S2).buf.length offs).flatten (QL 4 xs.length 4 S2)):=by
     unfold Qes vecS;rw[QcU,hfl]
    rw[hofs]
    generalize QL 4 xs.length 4 S2=S1 at *
    refine QK (fun _ h=>Qc h p (place (Zh S1.buf.length offs).flatten S1) (F.upd b (.cells (Qfq offs) 68)) 5) ?_ ?_
    ·rw[Yk,wrap_i64 (by omega) (by omega)]
     refine ⟨fun m ws h=>∃i:Nat,ws=[.int .i64 ((i:Int)-1)]/\i<=xs.length/\m=i/\Qc h p (place (Zh S1.buf.length (offs.drop i)).flatten S1) (F.upd b (.cells (Qfq offs) 68)) (4*i+5),⟨_,xs.length,rfl,Nat.le_refl _,rfl,?_⟩,fun m=>?_⟩
     ·rw[<-hfl,List.drop_length]
      rw[<-hfl]at hb16
      exact hb16
     ·rintro x15 h17 ⟨i,hx,hi',rfl,hb⟩
      cases hx
      rw[Qg2]
      apply Z2
      ·intro hge
       have hm1:m-1<offs.length:=by omega
       have hm2:m-1+1=m:=by omega
       rw[QR (by omega) (by omega)]
       have hto:((m:Int)-1).toNat=m-1:=by omega
       have hcell:=hb.get (b:=b) Cut.upd_same
       rw[hto,Nat.mul_one,Nat.zero_add,Qk ((Qu hcell).trans (u32c_get hm1))]
       have hdl:(Zh S1.buf.length (offs.drop m)).flatten.length=4*(offs.length-m):=by
        rw[QaI _ (Qc8 _ _),QcU,List.length_drop]
       have hget:offs.getD (m-1) 0=offs[m-1]:=by simp[List.getD,hm1]
       have hoff:offs[m-1]<=S2.buf.length:=hI5 _ (List.getElem_mem hm1)
       have hdrop:offs.drop (m-1)=offs[m-1]::offs.drop m:=by rw[List.drop_eq_getElem_cons hm1,hm2]
       rw[hget]
       refine al_UOffsetT hb ?_ (by rw[Qas];exact hm.1) (by rw[Y3];omega) (by rw[Y3,hdl];omega) ?_
       ·rw[Y3,hdl]
        have e4:(4*(offs.length-m)+S1.buf.length)+4*m=S1.buf.length+4*xs.length:=by omega
        omega
       ·intro h18 hb18
        rw[Yk,wrap_i64 (by omega) (by omega)]
        refine ⟨m-1,by omega,m-1,by rw[show ((m:Int)-1-1)=(((m-1:Nat):Int)-1) by omega],by omega,rfl,?_⟩
        rw[YX,Y3,hdl]at hb18
        rw[hdrop,Zh,List.flatten_cons,List.length_drop,show S1.buf.length+4*(offs.length-m)=4*(offs.length-m)+S1.buf.length by omega]
        exact hb18.room (by omega)
      ·intro hge
       have hm0:m=0:=by omega
       subst hm0
       exact hb
    ·intro x15 h19 hb19
     refine Qa2 hb19 hS1n (by decide) (by omega) ?_
     intro h20 hb20
     exact ⟨rfl,(hb20.room (by decide)).weaken (hle _)⟩
 ·rintro x8 h21 ⟨hx,hb⟩
  cases hx
  exact hrest h21 hb
end Go.Proofs
namespace Go.Proofs
open Go Go.Vc
open Tryz (prog)
theorem QcE {t:TypeId} {ok:Bool} {z v:Value} {k:Value->Prop}:Qia t ok z (.iface t v) k=k (if ok then .tuple #[v,.bool true] else v):=by
 show (if t=t then _ else _)=_
 rw[if_pos rfl]
def KidOk (p:Nat) (S:BS) (F:Cut) (H:Qf) (c:Value) (kids:List Mon):Prop:=
 ∀k,kids=[k]->∀R:Kn,(∀H',Qc H' p (ZT k S).1 F 0->R (.int .u32 ((ZT k S).2:Nat)) H')->FnS prog 21 #[c,.pointer (some ⟨p,0,none⟩)] H R
theorem AnyT_Pack {H:Qf} {p:Nat} {S:BS} {F:Cut} {r:Nat} (hB:Qc H p S F r) {R:Kn} {ty color:UInt8} {v c:Value} {kids:List Mon} (hv:Qcu F false ty color v c kids) (hkid:KidOk p S F H c kids) (hI:Inv S) (hl:S.buf.length+5000<=536870912)
  (hR:∀H',Qc H' p (Qb9 false ty color (YW kids) S).1 F 0->R (.int .u32 ((Qb9 false ty color (YW kids) S).2:Nat)) H'):
  FnS prog 85 #[v,.pointer (some ⟨p,0,none⟩)] H R:=by
 apply w85
 unfold s85
 rcases hv with ⟨rfl,rfl,rfl⟩|⟨h0,w,hv',hu⟩
 ·rw[Y1 (by kernel_rfl)]
  exact hR H (hB.room (Nat.zero_le _))
 ·obtain ⟨q,e,rfl,hq⟩:=hv'
  have hv':ZS F (.pointer (some ⟨q,0,none⟩)) #[u8n ty,w]:=⟨q,e,rfl,hq⟩
  rw[Y1 (by kernel_rfl)]
  show IfK (.bool false) _ _
  rw[Qbv]
  rcases hu with ⟨_,rfl,rfl,hc,rfl⟩|⟨hty,rfl,k,rfl⟩
  ·refine hv'.ld hB.cut (i:=0) (u8n 2) rfl ?_
   rw[Yt,Q2 (by decide),Yt,Q1 (by decide)]
   refine hv'.ld hB.cut (i:=1) (.iface 258 c) rfl ?_
   rw[QcE]
   refine QhR hB hI hc hl ?_
   intro H' h'
   exact hR H' h'
  ·have h1:ty=1:=by
    rcases hty with h|⟨h,_⟩
    ·exact h
    ·cases h
   subst h1
   refine hv'.ld hB.cut (i:=0) (u8n 1) rfl ?_
   rw[Yt,Q1 (by decide)]
   refine hv'.ld hB.cut (i:=1) (.iface 69 c) rfl ?_
   rw[QcE]
   refine hkid k rfl _ ?_
   intro H' h'
   have e:Qb9 false 1 color (YW [k]) S=ZT k S:=by
    unfold Qb9
    rw[if_neg (by decide),if_neg (by decide),YW]
   rw[e]at hR
   exact hR H' h'
theorem Qfk {H:Qf} {p:Nat} {S:BS} {F:Cut} {r:Nat} (hB:Qc H p S F r) {R:Kn} {ty color:UInt8} {v c:Value} {kids:List Mon} (hv:Qcu F false ty color v c kids) (hkid:KidOk p S F H c kids) (hI:Inv S) (hl:S.buf.length+5000<=536870912)
  (hR:∀H',Qc H' p (Qb9 false ty color (YW kids) S).1 F 0->R (.int .u32 ((Qb9 false ty color (YW kids) S).2:Nat)) H'):
  FnS prog 110 #[v,.pointer (some ⟨p,0,none⟩)] H R:=by
 apply w110
 unfold s110
 rcases hv with ⟨rfl,rfl,rfl⟩|⟨h0,w,hv',hu⟩
 ·rw[Y1 (by kernel_rfl)]
  exact hR H (hB.room (Nat.zero_le _))
 ·obtain ⟨q,e,rfl,hq⟩:=hv'
  have hv':ZS F (.pointer (some ⟨q,0,none⟩)) #[u8n ty,w]:=⟨q,e,rfl,hq⟩
  rw[Y1 (by kernel_rfl)]
  show IfK (.bool false) _ _
  rw[Qbv]
  rcases hu with ⟨_,rfl,rfl,hc,rfl⟩|⟨hty,rfl,k,rfl⟩
  ·refine hv'.ld hB.cut (i:=0) (u8n 2) rfl ?_
   rw[Yt,Q2 (by decide),Yt,Q1 (by decide)]
   refine hv'.ld hB.cut (i:=1) (.iface 258 c) rfl ?_
   rw[QcE]
   refine QhR hB hI hc hl ?_
   intro H' h'
   exact hR H' h'
  ·have h1:ty=1:=by
    rcases hty with h|⟨h,_⟩
    ·exact h
    ·cases h
   subst h1
   refine hv'.ld hB.cut (i:=0) (u8n 1) rfl ?_
   rw[Yt,Q1 (by decide)]
   refine hv'.ld hB.cut (i:=1) (.iface 69 c) rfl ?_
   rw[QcE]
   refine hkid k rfl _ ?_
   intro H' h'
   have e:Qb9 false 1 color (YW [k]) S=ZT k S:=by
    unfold Qb9
    rw[if_neg (by decide),if_neg (by decide),YW]
   rw[e]at hR
   exact hR H' h'
theorem Qe5 {H:Qf} {p:Nat} {S:BS} {F:Cut} {r:Nat} (hB:Qc H p S F r) {R:Kn} {ty color:UInt8} {v c:Value} {kids:List Mon} (hv:Qcu F true ty color v c kids) (hkid:KidOk p S F H c kids) (hI:Inv S) (hl:S.buf.length+5000<=536870912)
  (hR:∀H',Qc H' p (Qb9 true ty color (YW kids) S).1 F 0->R (.int .u32 ((Qb9 true ty color (YW kids) S).2:Nat)) H'):
  FnS prog 111 #[v,.pointer (some ⟨p,0,none⟩)] H R:=by
 apply w111
 unfold s111
 rcases hv with ⟨rfl,rfl,rfl⟩|⟨h0,w,hv',hu⟩
 ·rw[Y1 (by kernel_rfl)]
  exact hR H (hB.room (Nat.zero_le _))
 ·obtain ⟨q,e,rfl,hq⟩:=hv'
  have hv':ZS F (.pointer (some ⟨q,0,none⟩)) #[u8n ty,w]:=⟨q,e,rfl,hq⟩
  rw[Y1 (by kernel_rfl)]
  show IfK (.bool false) _ _
  rw[Qbv]
  rcases hu with ⟨h,_⟩|⟨hty,rfl,k,rfl⟩
  ·cases h
  ·have e:Qb9 true ty color (YW [k]) S=ZT k S:=by
    unfold Qb9
    rw[if_neg h0,if_neg (by simp),YW]
   rw[e]at hR
   have go:∀x,x=ty->True:=fun _ _=>trivial
   refine hv'.ld hB.cut (i:=0) (u8n ty) rfl ?_
   rcases hty with rfl|⟨_,rfl|rfl⟩
   ·rw[Yt,Q1 (by decide)]
    refine hv'.ld hB.cut (i:=1) (.iface 69 c) rfl ?_
    rw[QcE]
    exact hkid k rfl _ hR
   ·rw[Yt,Q2 (by decide),Yt,Q1 (by decide)]
    refine hv'.ld hB.cut (i:=1) (.iface 69 c) rfl ?_
    rw[QcE]
    exact hkid k rfl _ hR
   ·rw[Yt,Q2 (by decide),Yt,Q2 (by decide),Yt,Q1 (by decide)]
    refine hv'.ld hB.cut (i:=1) (.iface 69 c) rfl ?_
    rw[QcE]
    exact hkid k rfl _ hR
end Go.Proofs
